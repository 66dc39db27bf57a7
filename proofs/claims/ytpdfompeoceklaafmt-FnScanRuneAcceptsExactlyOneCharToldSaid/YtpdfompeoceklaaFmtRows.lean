/-
  NARROWER THAN 'FOR EVERY INPUT', by the rows' own cells (each row's printed sentence says how): FnScanNumberRescanLiteral: laid · FnScanStringMatchesEndModel: laid · FnScanRawStringMatchesModel: laid · FnScanRuneAcceptsExactlyOneChar: laid.
  DERIVED. THE GIVEN ROWS OF THIS SEAT. 4 by the template 'for every input the law returns true; each argument reads behind the call as it read before'; 0 by the template 'total and deterministic' (their statements: YtpdfompeoceklaaFmtTotals.lean).
  GIVEN WITH THE SEED: the statements are not yours to turn. If you find one false, say at which input.
  Laid BY PROGRAM, IN A SANDBOX (cutbox-rows.mjs): the forced cells as the released guide's own fill.sh prints them over the translation abee51d848cb8036… (all of the seat's roots in one cut). By AI agents, Wed Nov 11 2026. No macro, syntax, notation, axiom, sorry.
-/
import Derived.Test.YtpdfompeoceklaaFmtChecked
import GoSem.PinnedTables
import GoSem.Claim
import GoSem.ClaimJoined
import GoSem.ClaimMapViews
import Derived.JoinedTies
import Derived.KernelRfl
namespace Go.Proofs.YtpdfompeoceklaaFmt
/- THE CELL 'sum', in the pinned program and in every row, IS THE sha256 OF THE DUMP (.gsa) THAT YtpdfompeoceklaaFmtProg.lean LOADS. Nothing in Lean hashes anything: it is a label: what it is worth is what the hold of that sum in a sandbox is worth. -/
noncomputable def Tryf.pinned : Pinned := { name := "ytpdfompeoceklaafmt", sum := "abee51d848cb803681f9da06638e823e57f5b1b0832b0eb76bf226b95dfee7f9", checked := Tryf.checked }
namespace Rows
def none {H : Type} : Left H := { results := [], args := [] }

/- WHAT THE LISTED PACKAGE-LEVEL VARIABLES READ AS WHEN THE CALL BEGINS. Each datum BY PROGRAM (the guide's laid-datum.mjs) off the statement by which the dump's own 'gosem.cut.vars' lays the variable. In a bare row this is a premise. The card (YtpdfompeoceklaaFmtCards.lean) ties it to the program's text. -/
def laid_unicode_utf8_acceptRanges {H : Type} : DataW H := .agg [.agg [.lit (.int .u8 128), .lit (.int .u8 191)], .agg [.lit (.int .u8 160), .lit (.int .u8 191)], .agg [.lit (.int .u8 128), .lit (.int .u8 159)], .agg [.lit (.int .u8 144), .lit (.int .u8 191)], .agg [.lit (.int .u8 128), .lit (.int .u8 143)], .agg [.lit (.int .u8 0), .lit (.int .u8 0)], .agg [.lit (.int .u8 0), .lit (.int .u8 0)], .agg [.lit (.int .u8 0), .lit (.int .u8 0)], .agg [.lit (.int .u8 0), .lit (.int .u8 0)], .agg [.lit (.int .u8 0), .lit (.int .u8 0)], .agg [.lit (.int .u8 0), .lit (.int .u8 0)], .agg [.lit (.int .u8 0), .lit (.int .u8 0)], .agg [.lit (.int .u8 0), .lit (.int .u8 0)], .agg [.lit (.int .u8 0), .lit (.int .u8 0)], .agg [.lit (.int .u8 0), .lit (.int .u8 0)], .agg [.lit (.int .u8 0), .lit (.int .u8 0)]]
/-- One of Go's own tables, pinned by name: the form's constant. -/
def laid_unicode_utf8_first : DataW Unit := Go.Pinned.utf8First

/-- 'n002_74.FnScanNumberRescanLiteral': WHATEVER THE INPUT: true; the input reads as it did. -/
def fnScanNumberRescanLiteralSpec : ChangeSpec := { name := "fnScanNumberRescanLiteral", fn := fun _ => fun
  | [d] => { results := [.lit (.bool true)], args := [d] }
  | _ => none }
def fnScanNumberRescanLiteralRow : OpenClaim := { program := "ytpdfompeoceklaafmt", sum := "abee51d848cb803681f9da06638e823e57f5b1b0832b0eb76bf226b95dfee7f9", func := "github.com/d5/tengo/v2/n002_74.FnScanNumberRescanLiteral", spec := "fnScanNumberRescanLiteral", stops := ["fmt.Sprintf"], inPlace := ["fmt.Sprintf"], unfollowed := true, recurses := true, named := ["unicode/utf8.first", "unicode/utf8.acceptRanges"], apart := false, laid := [("unicode/utf8.acceptRanges", laid_unicode_utf8_acceptRanges), ("unicode/utf8.first", laid_unicode_utf8_first)] }
/-- NO THEOREM (fmt's text is open here; it may be false): for the released tool's asking of the row's closed facts alone. THE STATEMENT IS 'FnScanNumberRescanLiteralToldSaid' (YtpdfompeoceklaaFmtCards.lean). -/
def FnScanNumberRescanLiteralFormAsk : Prop := fnScanNumberRescanLiteralRow.holds Tryf.pinned (OpenSpec.ofChange fnScanNumberRescanLiteralSpec)

/-- ITS FALSE NEIGHBOUR: 'it returns false'. Refute it at one input. -/
def fnScanNumberRescanLiteralWrong : ChangeSpec := { name := "fnScanNumberRescanLiteral", fn := fun _ => fun
  | [d] => { results := [.lit (.bool false)], args := [d] }
  | _ => none }
def FnScanNumberRescanLiteralWrongFormAsk : Prop := fnScanNumberRescanLiteralRow.holds Tryf.pinned (OpenSpec.ofChange fnScanNumberRescanLiteralWrong)

/-- 'n002_114.FnScanStringMatchesEndModel': WHATEVER THE INPUT: true; the input reads as it did. -/
def fnScanStringMatchesEndModelSpec : ChangeSpec := { name := "fnScanStringMatchesEndModel", fn := fun _ => fun
  | [d] => { results := [.lit (.bool true)], args := [d] }
  | _ => none }
def fnScanStringMatchesEndModelRow : OpenClaim := { program := "ytpdfompeoceklaafmt", sum := "abee51d848cb803681f9da06638e823e57f5b1b0832b0eb76bf226b95dfee7f9", func := "github.com/d5/tengo/v2/n002_114.FnScanStringMatchesEndModel", spec := "fnScanStringMatchesEndModel", stops := ["fmt.Sprintf"], inPlace := ["fmt.Sprintf"], unfollowed := true, recurses := true, named := ["unicode/utf8.first", "unicode/utf8.acceptRanges"], apart := false, laid := [("unicode/utf8.acceptRanges", laid_unicode_utf8_acceptRanges), ("unicode/utf8.first", laid_unicode_utf8_first)] }
/-- NO THEOREM (fmt's text is open here; it may be false): for the released tool's asking of the row's closed facts alone. THE STATEMENT IS 'FnScanStringMatchesEndModelToldSaid' (YtpdfompeoceklaaFmtCards.lean). -/
def FnScanStringMatchesEndModelFormAsk : Prop := fnScanStringMatchesEndModelRow.holds Tryf.pinned (OpenSpec.ofChange fnScanStringMatchesEndModelSpec)

/-- ITS FALSE NEIGHBOUR: 'it returns false'. Refute it at one input. -/
def fnScanStringMatchesEndModelWrong : ChangeSpec := { name := "fnScanStringMatchesEndModel", fn := fun _ => fun
  | [d] => { results := [.lit (.bool false)], args := [d] }
  | _ => none }
def FnScanStringMatchesEndModelWrongFormAsk : Prop := fnScanStringMatchesEndModelRow.holds Tryf.pinned (OpenSpec.ofChange fnScanStringMatchesEndModelWrong)

/-- 'n002_114.FnScanRawStringMatchesModel': WHATEVER THE INPUT: true; the input reads as it did. -/
def fnScanRawStringMatchesModelSpec : ChangeSpec := { name := "fnScanRawStringMatchesModel", fn := fun _ => fun
  | [d] => { results := [.lit (.bool true)], args := [d] }
  | _ => none }
def fnScanRawStringMatchesModelRow : OpenClaim := { program := "ytpdfompeoceklaafmt", sum := "abee51d848cb803681f9da06638e823e57f5b1b0832b0eb76bf226b95dfee7f9", func := "github.com/d5/tengo/v2/n002_114.FnScanRawStringMatchesModel", spec := "fnScanRawStringMatchesModel", stops := ["fmt.Sprintf"], inPlace := ["fmt.Sprintf"], unfollowed := true, recurses := true, named := ["unicode/utf8.first", "unicode/utf8.acceptRanges"], apart := false, laid := [("unicode/utf8.acceptRanges", laid_unicode_utf8_acceptRanges), ("unicode/utf8.first", laid_unicode_utf8_first)] }
/-- NO THEOREM (fmt's text is open here; it may be false): for the released tool's asking of the row's closed facts alone. THE STATEMENT IS 'FnScanRawStringMatchesModelToldSaid' (YtpdfompeoceklaaFmtCards.lean). -/
def FnScanRawStringMatchesModelFormAsk : Prop := fnScanRawStringMatchesModelRow.holds Tryf.pinned (OpenSpec.ofChange fnScanRawStringMatchesModelSpec)

/-- ITS FALSE NEIGHBOUR: 'it returns false'. Refute it at one input. -/
def fnScanRawStringMatchesModelWrong : ChangeSpec := { name := "fnScanRawStringMatchesModel", fn := fun _ => fun
  | [d] => { results := [.lit (.bool false)], args := [d] }
  | _ => none }
def FnScanRawStringMatchesModelWrongFormAsk : Prop := fnScanRawStringMatchesModelRow.holds Tryf.pinned (OpenSpec.ofChange fnScanRawStringMatchesModelWrong)

/-- 'n002_74.FnScanRuneAcceptsExactlyOneChar': WHATEVER THE INPUT: true; the input reads as it did. -/
def fnScanRuneAcceptsExactlyOneCharSpec : ChangeSpec := { name := "fnScanRuneAcceptsExactlyOneChar", fn := fun _ => fun
  | [d] => { results := [.lit (.bool true)], args := [d] }
  | _ => none }
def fnScanRuneAcceptsExactlyOneCharRow : OpenClaim := { program := "ytpdfompeoceklaafmt", sum := "abee51d848cb803681f9da06638e823e57f5b1b0832b0eb76bf226b95dfee7f9", func := "github.com/d5/tengo/v2/n002_74.FnScanRuneAcceptsExactlyOneChar", spec := "fnScanRuneAcceptsExactlyOneChar", stops := ["fmt.Sprintf"], inPlace := ["fmt.Sprintf"], unfollowed := true, recurses := true, named := ["unicode/utf8.first", "unicode/utf8.acceptRanges"], apart := false, laid := [("unicode/utf8.acceptRanges", laid_unicode_utf8_acceptRanges), ("unicode/utf8.first", laid_unicode_utf8_first)] }
/-- NO THEOREM (fmt's text is open here; it may be false): for the released tool's asking of the row's closed facts alone. THE STATEMENT IS 'FnScanRuneAcceptsExactlyOneCharToldSaid' (YtpdfompeoceklaaFmtCards.lean). -/
def FnScanRuneAcceptsExactlyOneCharFormAsk : Prop := fnScanRuneAcceptsExactlyOneCharRow.holds Tryf.pinned (OpenSpec.ofChange fnScanRuneAcceptsExactlyOneCharSpec)

/-- ITS FALSE NEIGHBOUR: 'it returns false'. Refute it at one input. -/
def fnScanRuneAcceptsExactlyOneCharWrong : ChangeSpec := { name := "fnScanRuneAcceptsExactlyOneChar", fn := fun _ => fun
  | [d] => { results := [.lit (.bool false)], args := [d] }
  | _ => none }
def FnScanRuneAcceptsExactlyOneCharWrongFormAsk : Prop := fnScanRuneAcceptsExactlyOneCharRow.holds Tryf.pinned (OpenSpec.ofChange fnScanRuneAcceptsExactlyOneCharWrong)

end Rows
end Go.Proofs.YtpdfompeoceklaaFmt
