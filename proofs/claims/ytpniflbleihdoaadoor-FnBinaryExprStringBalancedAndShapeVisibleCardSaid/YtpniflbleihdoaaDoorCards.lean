/-
  DERIVED. GIVEN WITH THE SEED: THE CARDS: each row of YtpniflbleihdoaaDoorRows.lean that lists a variable, with what it lists TIED to the program's text (the seventh form; the later family's looks); each row that meets fmt, with fmt's text TOLD by the authors' own Lean function (tested against real Go, not proved from fmt's source: count such statements apart). THE CARD IS WHAT COUNTS. Prove the row's statement (the work); the ties are given (YtpniflbleihdoaaDoorTie.lean); close each card by the builder's one call (the guide's Derived/Test/ToyasCard.lean, 'card_holds'). Laid BY PROGRAM, IN A SANDBOX (cutbox-door.mjs). By AI agents, Wed Nov 11 2026. No macro, syntax, notation, axiom, sorry.
-/
import Derived.Test.YtpniflbleihdoaaDoorRows
import GoSem.ClaimSeven
namespace Go.Proofs.YtpniflbleihdoaaDoor
namespace Rows

/-- THE TIED CARD OF 'n002_71.FnStringStringASCIIModel'. -/
def fnStringStringASCIIModelCard : Claim7 := { stood := { row := fnStringStringASCIIModelRow, standIns := [], harness := (true, "96db14290fadea05300e2291403ceff13fac5949e884d1a3e555b38cd7c2fd3d"), looks := false }, kinds := [], alts := [], laidByText := true, laidKinds := [.data, .pinned, .pinned, .pinned, .pinned, .pinned, .pinned], laidTests := true, laidLooks := .later }
def FnStringStringASCIIModelCardSaid : Prop := Claim7.holds Tryd.pinned (.plain (OpenSpec.ofChange fnStringStringASCIIModelSpec)) fnStringStringASCIIModelCard

/-- THE TIED CARD OF 'n002_79.FnBinaryExprStringBalancedAndShapeVisible'. -/
def fnBinaryExprStringBalancedAndShapeVisibleCard : Claim7 := { stood := { row := fnBinaryExprStringBalancedAndShapeVisibleRow, standIns := [], harness := (true, "96db14290fadea05300e2291403ceff13fac5949e884d1a3e555b38cd7c2fd3d"), looks := false }, kinds := [], alts := [], laidByText := true, laidKinds := [.data, .data, .data, .data], laidTests := true, laidLooks := .later }
def FnBinaryExprStringBalancedAndShapeVisibleCardSaid : Prop := Claim7.holds Tryd.pinned (.plain (OpenSpec.ofChange fnBinaryExprStringBalancedAndShapeVisibleSpec)) fnBinaryExprStringBalancedAndShapeVisibleCard

/-- THE TIED CARD OF 'n002_141.FnUndefinedStringExactAndUnlikeStrings'. -/
def fnUndefinedStringExactAndUnlikeStringsCard : Claim7 := { stood := { row := fnUndefinedStringExactAndUnlikeStringsRow, standIns := [], harness := (true, "96db14290fadea05300e2291403ceff13fac5949e884d1a3e555b38cd7c2fd3d"), looks := false }, kinds := [], alts := [], laidByText := true, laidKinds := [.data, .data, .data, .data, .pinned, .pinned, .pinned, .pinned, .pinned, .pinned], laidTests := true, laidLooks := .later }
def FnUndefinedStringExactAndUnlikeStringsCardSaid : Prop := Claim7.holds Tryd.pinned (.plain (OpenSpec.ofChange fnUndefinedStringExactAndUnlikeStringsSpec)) fnUndefinedStringExactAndUnlikeStringsCard

/-- THE TIED CARD OF 'n002_29.FnBranchStmtSpanMatchesText'. -/
def fnBranchStmtSpanMatchesTextCard : Claim7 := { stood := { row := fnBranchStmtSpanMatchesTextRow, standIns := [], harness := (true, "96db14290fadea05300e2291403ceff13fac5949e884d1a3e555b38cd7c2fd3d"), looks := false }, kinds := [], alts := [], laidByText := true, laidKinds := [.data, .data, .data, .data], laidTests := true, laidLooks := .later }
def FnBranchStmtSpanMatchesTextCardSaid : Prop := Claim7.holds Tryd.pinned (.plain (OpenSpec.ofChange fnBranchStmtSpanMatchesTextSpec)) fnBranchStmtSpanMatchesTextCard

/-- THE TIED CARD OF 'n002_109.FnIsDigitUnicodeDecimalDigits'. -/
def fnIsDigitUnicodeDecimalDigitsCard : Claim7 := { stood := { row := fnIsDigitUnicodeDecimalDigitsRow, standIns := [], harness := (true, "96db14290fadea05300e2291403ceff13fac5949e884d1a3e555b38cd7c2fd3d"), looks := false }, kinds := [], alts := [], laidByText := true, laidKinds := [.pinned], laidTests := true, laidLooks := .later }
def FnIsDigitUnicodeDecimalDigitsCardSaid : Prop := Claim7.holds Tryd.pinned (.plain (OpenSpec.ofChange fnIsDigitUnicodeDecimalDigitsSpec)) fnIsDigitUnicodeDecimalDigitsCard

/-- THE TIED CARD OF 'n002_10.FnBranchEndTable'. -/
def fnBranchEndTableCard : Claim7 := { stood := { row := fnBranchEndTableRow, standIns := [], harness := (true, "96db14290fadea05300e2291403ceff13fac5949e884d1a3e555b38cd7c2fd3d"), looks := false }, kinds := [], alts := [], laidByText := true, laidKinds := [.data, .data, .data, .data], laidTests := true, laidLooks := .later }
def FnBranchEndTableCardSaid : Prop := Claim7.holds Tryd.pinned (.plain (OpenSpec.ofChange fnBranchEndTableSpec)) fnBranchEndTableCard

/-- THE TIED CARD OF 'n002_112.FnTruncateFirstPrecRunes'. -/
def fnTruncateFirstPrecRunesCard : Claim7 := { stood := { row := fnTruncateFirstPrecRunesRow, standIns := [], harness := (true, "96db14290fadea05300e2291403ceff13fac5949e884d1a3e555b38cd7c2fd3d"), looks := false }, kinds := [], alts := [], laidByText := true, laidKinds := [.data, .pinned], laidTests := true, laidLooks := .later }
def FnTruncateFirstPrecRunesCardSaid : Prop := Claim7.holds Tryd.pinned (.plain (OpenSpec.ofChange fnTruncateFirstPrecRunesSpec)) fnTruncateFirstPrecRunesCard

/-- THE SECOND FORM's CARD OF 'n002_71.FnStringStringASCIIModel'. -/
def fnStringStringASCIIModelUptoCard : Claim7 := { stood := { row := fnStringStringASCIIModelUptoRow, standIns := [], harness := (true, "96db14290fadea05300e2291403ceff13fac5949e884d1a3e555b38cd7c2fd3d"), looks := false }, kinds := [], alts := [], laidByText := true, laidKinds := [.data, .pinned, .pinned, .pinned, .pinned, .pinned, .pinned], laidTests := true, laidLooks := .later }
def FnStringStringASCIIModelUptoCardSaid : Prop := Claim7.holds Tryd.pinned (.plain (OpenSpec.upto fnStringStringASCIIModelSpec)) fnStringStringASCIIModelUptoCard

/-- THE SECOND FORM's CARD OF 'n002_79.FnBinaryExprStringBalancedAndShapeVisible'. -/
def fnBinaryExprStringBalancedAndShapeVisibleUptoCard : Claim7 := { stood := { row := fnBinaryExprStringBalancedAndShapeVisibleUptoRow, standIns := [], harness := (true, "96db14290fadea05300e2291403ceff13fac5949e884d1a3e555b38cd7c2fd3d"), looks := false }, kinds := [], alts := [], laidByText := true, laidKinds := [.data, .data, .data, .data], laidTests := true, laidLooks := .later }
def FnBinaryExprStringBalancedAndShapeVisibleUptoCardSaid : Prop := Claim7.holds Tryd.pinned (.plain (OpenSpec.upto fnBinaryExprStringBalancedAndShapeVisibleSpec)) fnBinaryExprStringBalancedAndShapeVisibleUptoCard

/-- THE SECOND FORM's CARD OF 'n002_141.FnUndefinedStringExactAndUnlikeStrings'. -/
def fnUndefinedStringExactAndUnlikeStringsUptoCard : Claim7 := { stood := { row := fnUndefinedStringExactAndUnlikeStringsUptoRow, standIns := [], harness := (true, "96db14290fadea05300e2291403ceff13fac5949e884d1a3e555b38cd7c2fd3d"), looks := false }, kinds := [], alts := [], laidByText := true, laidKinds := [.data, .data, .data, .data, .pinned, .pinned, .pinned, .pinned, .pinned, .pinned], laidTests := true, laidLooks := .later }
def FnUndefinedStringExactAndUnlikeStringsUptoCardSaid : Prop := Claim7.holds Tryd.pinned (.plain (OpenSpec.upto fnUndefinedStringExactAndUnlikeStringsSpec)) fnUndefinedStringExactAndUnlikeStringsUptoCard

/-- THE SECOND FORM's CARD OF 'n002_29.FnBranchStmtSpanMatchesText'. -/
def fnBranchStmtSpanMatchesTextUptoCard : Claim7 := { stood := { row := fnBranchStmtSpanMatchesTextUptoRow, standIns := [], harness := (true, "96db14290fadea05300e2291403ceff13fac5949e884d1a3e555b38cd7c2fd3d"), looks := false }, kinds := [], alts := [], laidByText := true, laidKinds := [.data, .data, .data, .data], laidTests := true, laidLooks := .later }
def FnBranchStmtSpanMatchesTextUptoCardSaid : Prop := Claim7.holds Tryd.pinned (.plain (OpenSpec.upto fnBranchStmtSpanMatchesTextSpec)) fnBranchStmtSpanMatchesTextUptoCard

/-- THE SECOND FORM's CARD OF 'n002_109.FnIsDigitUnicodeDecimalDigits'. -/
def fnIsDigitUnicodeDecimalDigitsUptoCard : Claim7 := { stood := { row := fnIsDigitUnicodeDecimalDigitsUptoRow, standIns := [], harness := (true, "96db14290fadea05300e2291403ceff13fac5949e884d1a3e555b38cd7c2fd3d"), looks := false }, kinds := [], alts := [], laidByText := true, laidKinds := [.pinned], laidTests := true, laidLooks := .later }
def FnIsDigitUnicodeDecimalDigitsUptoCardSaid : Prop := Claim7.holds Tryd.pinned (.plain (OpenSpec.upto fnIsDigitUnicodeDecimalDigitsSpec)) fnIsDigitUnicodeDecimalDigitsUptoCard

/-- THE SECOND FORM's CARD OF 'n002_10.FnBranchEndTable'. -/
def fnBranchEndTableUptoCard : Claim7 := { stood := { row := fnBranchEndTableUptoRow, standIns := [], harness := (true, "96db14290fadea05300e2291403ceff13fac5949e884d1a3e555b38cd7c2fd3d"), looks := false }, kinds := [], alts := [], laidByText := true, laidKinds := [.data, .data, .data, .data], laidTests := true, laidLooks := .later }
def FnBranchEndTableUptoCardSaid : Prop := Claim7.holds Tryd.pinned (.plain (OpenSpec.upto fnBranchEndTableSpec)) fnBranchEndTableUptoCard

/-- THE SECOND FORM's CARD OF 'n002_112.FnTruncateFirstPrecRunes'. -/
def fnTruncateFirstPrecRunesUptoCard : Claim7 := { stood := { row := fnTruncateFirstPrecRunesUptoRow, standIns := [], harness := (true, "96db14290fadea05300e2291403ceff13fac5949e884d1a3e555b38cd7c2fd3d"), looks := false }, kinds := [], alts := [], laidByText := true, laidKinds := [.data, .pinned], laidTests := true, laidLooks := .later }
def FnTruncateFirstPrecRunesUptoCardSaid : Prop := Claim7.holds Tryd.pinned (.plain (OpenSpec.upto fnTruncateFirstPrecRunesSpec)) fnTruncateFirstPrecRunesUptoCard
end Rows
end Go.Proofs.YtpniflbleihdoaaDoor
