/-
  NARROWER THAN 'FOR EVERY INPUT', by the rows' own cells (each row's printed sentence says how): FnNewScannerInitialErrorCount: laid · FnNextWalksDecodedCharacters: laid · FnErrorCountCountsIllegalCharactersRead: laid · FnSkipWhitespaceStopsAtFirstNonSpace: laid · FnPeekIsFirstByteOfFollowingCharacter: laid.
  DERIVED. THE GIVEN ROWS OF THIS SEAT. 5 by the template 'for every input the law returns true; each argument reads behind the call as it read before'; 0 by the template 'total and deterministic' (their statements: YtcaolpebjpilgaaFmtTotals.lean).
  GIVEN WITH THE SEED: the statements are not yours to turn. If you find one false, say at which input.
  Laid BY PROGRAM, IN A SANDBOX (cutbox-rows.mjs): the forced cells as the released guide's own fill.sh prints them over the translation 0ec20f248a1b5e59… (all of the seat's roots in one cut). By AI agents, Wed Nov 11 2026. No macro, syntax, notation, axiom, sorry.
-/
import Derived.Test.YtcaolpebjpilgaaFmtChecked
import GoSem.PinnedTables
import GoSem.Claim
import GoSem.ClaimJoined
import GoSem.ClaimMapViews
import Derived.JoinedTies
import Derived.KernelRfl
namespace Go.Proofs.YtcaolpebjpilgaaFmt
/- THE CELL 'sum', in the pinned program and in every row, IS THE sha256 OF THE DUMP (.gsa) THAT YtcaolpebjpilgaaFmtProg.lean LOADS. Nothing in Lean hashes anything: it is a label: what it is worth is what the hold of that sum in a sandbox is worth. -/
noncomputable def Tryf.pinned : Pinned := { name := "ytcaolpebjpilgaafmt", sum := "0ec20f248a1b5e59b934ddcdeafbe97ff8633a63871257f58a5e1e34c996c3be", checked := Tryf.checked }
namespace Rows
def none {H : Type} : Left H := { results := [], args := [] }

/- WHAT THE LISTED PACKAGE-LEVEL VARIABLES READ AS WHEN THE CALL BEGINS. Each datum BY PROGRAM (the guide's laid-datum.mjs) off the statement by which the dump's own 'gosem.cut.vars' lays the variable. In a bare row this is a premise. The card (YtcaolpebjpilgaaFmtCards.lean) ties it to the program's text. -/
def laid_unicode_utf8_acceptRanges {H : Type} : DataW H := .agg [.agg [.lit (.int .u8 128), .lit (.int .u8 191)], .agg [.lit (.int .u8 160), .lit (.int .u8 191)], .agg [.lit (.int .u8 128), .lit (.int .u8 159)], .agg [.lit (.int .u8 144), .lit (.int .u8 191)], .agg [.lit (.int .u8 128), .lit (.int .u8 143)], .agg [.lit (.int .u8 0), .lit (.int .u8 0)], .agg [.lit (.int .u8 0), .lit (.int .u8 0)], .agg [.lit (.int .u8 0), .lit (.int .u8 0)], .agg [.lit (.int .u8 0), .lit (.int .u8 0)], .agg [.lit (.int .u8 0), .lit (.int .u8 0)], .agg [.lit (.int .u8 0), .lit (.int .u8 0)], .agg [.lit (.int .u8 0), .lit (.int .u8 0)], .agg [.lit (.int .u8 0), .lit (.int .u8 0)], .agg [.lit (.int .u8 0), .lit (.int .u8 0)], .agg [.lit (.int .u8 0), .lit (.int .u8 0)], .agg [.lit (.int .u8 0), .lit (.int .u8 0)]]
/-- One of Go's own tables, pinned by name: the form's constant. -/
def laid_unicode_utf8_first : DataW Unit := Go.Pinned.utf8First

/-- 'n002_85.FnNewScannerInitialErrorCount': WHATEVER THE INPUT: true; the input reads as it did. -/
def fnNewScannerInitialErrorCountSpec : ChangeSpec := { name := "fnNewScannerInitialErrorCount", fn := fun _ => fun
  | [d1, d2] => { results := [.lit (.bool true)], args := [d1, d2] }
  | _ => none }
def fnNewScannerInitialErrorCountRow : OpenClaim := { program := "ytcaolpebjpilgaafmt", sum := "0ec20f248a1b5e59b934ddcdeafbe97ff8633a63871257f58a5e1e34c996c3be", func := "github.com/d5/tengo/v2/n002_85.FnNewScannerInitialErrorCount", spec := "fnNewScannerInitialErrorCount", stops := ["fmt.Sprintf"], inPlace := ["fmt.Sprintf"], unfollowed := true, recurses := true, named := ["unicode/utf8.first", "unicode/utf8.acceptRanges"], apart := false, laid := [("unicode/utf8.acceptRanges", laid_unicode_utf8_acceptRanges), ("unicode/utf8.first", laid_unicode_utf8_first)] }
/-- NO THEOREM (fmt's text is open here; it may be false): for the released tool's asking of the row's closed facts alone. THE STATEMENT IS 'FnNewScannerInitialErrorCountToldSaid' (YtcaolpebjpilgaaFmtCards.lean). -/
def FnNewScannerInitialErrorCountFormAsk : Prop := fnNewScannerInitialErrorCountRow.holds Tryf.pinned (OpenSpec.ofChange fnNewScannerInitialErrorCountSpec)

/-- ITS FALSE NEIGHBOUR: 'it returns false'. Refute it at one input. -/
def fnNewScannerInitialErrorCountWrong : ChangeSpec := { name := "fnNewScannerInitialErrorCount", fn := fun _ => fun
  | [d1, d2] => { results := [.lit (.bool false)], args := [d1, d2] }
  | _ => none }
def FnNewScannerInitialErrorCountWrongFormAsk : Prop := fnNewScannerInitialErrorCountRow.holds Tryf.pinned (OpenSpec.ofChange fnNewScannerInitialErrorCountWrong)

/-- 'n002_96.FnNextWalksDecodedCharacters': WHATEVER THE INPUT: true; the input reads as it did. -/
def fnNextWalksDecodedCharactersSpec : ChangeSpec := { name := "fnNextWalksDecodedCharacters", fn := fun _ => fun
  | [d] => { results := [.lit (.bool true)], args := [d] }
  | _ => none }
def fnNextWalksDecodedCharactersRow : OpenClaim := { program := "ytcaolpebjpilgaafmt", sum := "0ec20f248a1b5e59b934ddcdeafbe97ff8633a63871257f58a5e1e34c996c3be", func := "github.com/d5/tengo/v2/n002_96.FnNextWalksDecodedCharacters", spec := "fnNextWalksDecodedCharacters", stops := ["fmt.Sprintf"], inPlace := ["fmt.Sprintf"], unfollowed := true, recurses := true, named := ["unicode/utf8.first", "unicode/utf8.acceptRanges"], apart := false, laid := [("unicode/utf8.acceptRanges", laid_unicode_utf8_acceptRanges), ("unicode/utf8.first", laid_unicode_utf8_first)] }
/-- NO THEOREM (fmt's text is open here; it may be false): for the released tool's asking of the row's closed facts alone. THE STATEMENT IS 'FnNextWalksDecodedCharactersToldSaid' (YtcaolpebjpilgaaFmtCards.lean). -/
def FnNextWalksDecodedCharactersFormAsk : Prop := fnNextWalksDecodedCharactersRow.holds Tryf.pinned (OpenSpec.ofChange fnNextWalksDecodedCharactersSpec)

/-- ITS FALSE NEIGHBOUR: 'it returns false'. Refute it at one input. -/
def fnNextWalksDecodedCharactersWrong : ChangeSpec := { name := "fnNextWalksDecodedCharacters", fn := fun _ => fun
  | [d] => { results := [.lit (.bool false)], args := [d] }
  | _ => none }
def FnNextWalksDecodedCharactersWrongFormAsk : Prop := fnNextWalksDecodedCharactersRow.holds Tryf.pinned (OpenSpec.ofChange fnNextWalksDecodedCharactersWrong)

/-- 'n002_96.FnErrorCountCountsIllegalCharactersRead': WHATEVER THE INPUT: true; the input reads as it did. -/
def fnErrorCountCountsIllegalCharactersReadSpec : ChangeSpec := { name := "fnErrorCountCountsIllegalCharactersRead", fn := fun _ => fun
  | [d] => { results := [.lit (.bool true)], args := [d] }
  | _ => none }
def fnErrorCountCountsIllegalCharactersReadRow : OpenClaim := { program := "ytcaolpebjpilgaafmt", sum := "0ec20f248a1b5e59b934ddcdeafbe97ff8633a63871257f58a5e1e34c996c3be", func := "github.com/d5/tengo/v2/n002_96.FnErrorCountCountsIllegalCharactersRead", spec := "fnErrorCountCountsIllegalCharactersRead", stops := ["fmt.Sprintf"], inPlace := ["fmt.Sprintf"], unfollowed := true, recurses := true, named := ["unicode/utf8.first", "unicode/utf8.acceptRanges"], apart := false, laid := [("unicode/utf8.acceptRanges", laid_unicode_utf8_acceptRanges), ("unicode/utf8.first", laid_unicode_utf8_first)] }
/-- NO THEOREM (fmt's text is open here; it may be false): for the released tool's asking of the row's closed facts alone. THE STATEMENT IS 'FnErrorCountCountsIllegalCharactersReadToldSaid' (YtcaolpebjpilgaaFmtCards.lean). -/
def FnErrorCountCountsIllegalCharactersReadFormAsk : Prop := fnErrorCountCountsIllegalCharactersReadRow.holds Tryf.pinned (OpenSpec.ofChange fnErrorCountCountsIllegalCharactersReadSpec)

/-- ITS FALSE NEIGHBOUR: 'it returns false'. Refute it at one input. -/
def fnErrorCountCountsIllegalCharactersReadWrong : ChangeSpec := { name := "fnErrorCountCountsIllegalCharactersRead", fn := fun _ => fun
  | [d] => { results := [.lit (.bool false)], args := [d] }
  | _ => none }
def FnErrorCountCountsIllegalCharactersReadWrongFormAsk : Prop := fnErrorCountCountsIllegalCharactersReadRow.holds Tryf.pinned (OpenSpec.ofChange fnErrorCountCountsIllegalCharactersReadWrong)

/-- 'n002_114.FnSkipWhitespaceStopsAtFirstNonSpace': WHATEVER THE INPUT: true; the input reads as it did. -/
def fnSkipWhitespaceStopsAtFirstNonSpaceSpec : ChangeSpec := { name := "fnSkipWhitespaceStopsAtFirstNonSpace", fn := fun _ => fun
  | [d] => { results := [.lit (.bool true)], args := [d] }
  | _ => none }
def fnSkipWhitespaceStopsAtFirstNonSpaceRow : OpenClaim := { program := "ytcaolpebjpilgaafmt", sum := "0ec20f248a1b5e59b934ddcdeafbe97ff8633a63871257f58a5e1e34c996c3be", func := "github.com/d5/tengo/v2/n002_114.FnSkipWhitespaceStopsAtFirstNonSpace", spec := "fnSkipWhitespaceStopsAtFirstNonSpace", stops := ["fmt.Sprintf"], inPlace := ["fmt.Sprintf"], unfollowed := true, recurses := true, named := ["unicode/utf8.first", "unicode/utf8.acceptRanges"], apart := false, laid := [("unicode/utf8.acceptRanges", laid_unicode_utf8_acceptRanges), ("unicode/utf8.first", laid_unicode_utf8_first)] }
/-- NO THEOREM (fmt's text is open here; it may be false): for the released tool's asking of the row's closed facts alone. THE STATEMENT IS 'FnSkipWhitespaceStopsAtFirstNonSpaceToldSaid' (YtcaolpebjpilgaaFmtCards.lean). -/
def FnSkipWhitespaceStopsAtFirstNonSpaceFormAsk : Prop := fnSkipWhitespaceStopsAtFirstNonSpaceRow.holds Tryf.pinned (OpenSpec.ofChange fnSkipWhitespaceStopsAtFirstNonSpaceSpec)

/-- ITS FALSE NEIGHBOUR: 'it returns false'. Refute it at one input. -/
def fnSkipWhitespaceStopsAtFirstNonSpaceWrong : ChangeSpec := { name := "fnSkipWhitespaceStopsAtFirstNonSpace", fn := fun _ => fun
  | [d] => { results := [.lit (.bool false)], args := [d] }
  | _ => none }
def FnSkipWhitespaceStopsAtFirstNonSpaceWrongFormAsk : Prop := fnSkipWhitespaceStopsAtFirstNonSpaceRow.holds Tryf.pinned (OpenSpec.ofChange fnSkipWhitespaceStopsAtFirstNonSpaceWrong)

/-- 'n002_96.FnPeekIsFirstByteOfFollowingCharacter': WHATEVER THE INPUT: true; the input reads as it did. -/
def fnPeekIsFirstByteOfFollowingCharacterSpec : ChangeSpec := { name := "fnPeekIsFirstByteOfFollowingCharacter", fn := fun _ => fun
  | [d] => { results := [.lit (.bool true)], args := [d] }
  | _ => none }
def fnPeekIsFirstByteOfFollowingCharacterRow : OpenClaim := { program := "ytcaolpebjpilgaafmt", sum := "0ec20f248a1b5e59b934ddcdeafbe97ff8633a63871257f58a5e1e34c996c3be", func := "github.com/d5/tengo/v2/n002_96.FnPeekIsFirstByteOfFollowingCharacter", spec := "fnPeekIsFirstByteOfFollowingCharacter", stops := ["fmt.Sprintf"], inPlace := ["fmt.Sprintf"], unfollowed := true, recurses := true, named := ["unicode/utf8.first", "unicode/utf8.acceptRanges"], apart := false, laid := [("unicode/utf8.acceptRanges", laid_unicode_utf8_acceptRanges), ("unicode/utf8.first", laid_unicode_utf8_first)] }
/-- NO THEOREM (fmt's text is open here; it may be false): for the released tool's asking of the row's closed facts alone. THE STATEMENT IS 'FnPeekIsFirstByteOfFollowingCharacterToldSaid' (YtcaolpebjpilgaaFmtCards.lean). -/
def FnPeekIsFirstByteOfFollowingCharacterFormAsk : Prop := fnPeekIsFirstByteOfFollowingCharacterRow.holds Tryf.pinned (OpenSpec.ofChange fnPeekIsFirstByteOfFollowingCharacterSpec)

/-- ITS FALSE NEIGHBOUR: 'it returns false'. Refute it at one input. -/
def fnPeekIsFirstByteOfFollowingCharacterWrong : ChangeSpec := { name := "fnPeekIsFirstByteOfFollowingCharacter", fn := fun _ => fun
  | [d] => { results := [.lit (.bool false)], args := [d] }
  | _ => none }
def FnPeekIsFirstByteOfFollowingCharacterWrongFormAsk : Prop := fnPeekIsFirstByteOfFollowingCharacterRow.holds Tryf.pinned (OpenSpec.ofChange fnPeekIsFirstByteOfFollowingCharacterWrong)

end Rows
end Go.Proofs.YtcaolpebjpilgaaFmt
