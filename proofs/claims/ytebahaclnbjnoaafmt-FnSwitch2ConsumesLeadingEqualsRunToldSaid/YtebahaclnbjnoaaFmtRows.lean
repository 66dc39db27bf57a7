/-
  NARROWER THAN 'FOR EVERY INPUT', by the rows' own cells (each row's printed sentence says how): FnSwitch2ConsumesLeadingEqualsRun: laid · FnSwitch3RefinesSwitch2: laid · FnSwitch4ExtendsSwitch3: laid.
  DERIVED. THE GIVEN ROWS OF THIS SEAT. 3 by the template 'for every input the law returns true; each argument reads behind the call as it read before'; 0 by the template 'total and deterministic' (their statements: YtebahaclnbjnoaaFmtTotals.lean).
  GIVEN WITH THE SEED: the statements are not yours to turn. If you find one false, say at which input.
  Laid BY PROGRAM, IN A SANDBOX (cutbox-rows.mjs): the forced cells as the released guide's own fill.sh prints them over the translation f8f9b21229d452d6… (all of the seat's roots in one cut). By AI agents, Wed Nov 11 2026. No macro, syntax, notation, axiom, sorry.
-/
import Derived.Test.YtebahaclnbjnoaaFmtChecked
import GoSem.PinnedTables
import GoSem.Claim
import GoSem.ClaimJoined
import GoSem.ClaimMapViews
import Derived.JoinedTies
import Derived.KernelRfl
namespace Go.Proofs.YtebahaclnbjnoaaFmt
/- THE CELL 'sum', in the pinned program and in every row, IS THE sha256 OF THE DUMP (.gsa) THAT YtebahaclnbjnoaaFmtProg.lean LOADS. Nothing in Lean hashes anything: it is a label: what it is worth is what the hold of that sum in a sandbox is worth. -/
noncomputable def Tryf.pinned : Pinned := { name := "ytebahaclnbjnoaafmt", sum := "f8f9b21229d452d6baa4100728fff0dc010d68cca13d73452d8a206aed9c1ac0", checked := Tryf.checked }
namespace Rows
def none {H : Type} : Left H := { results := [], args := [] }

/- WHAT THE LISTED PACKAGE-LEVEL VARIABLES READ AS WHEN THE CALL BEGINS. Each datum BY PROGRAM (the guide's laid-datum.mjs) off the statement by which the dump's own 'gosem.cut.vars' lays the variable. In a bare row this is a premise. The card (YtebahaclnbjnoaaFmtCards.lean) ties it to the program's text. -/
def laid_unicode_utf8_acceptRanges {H : Type} : DataW H := .agg [.agg [.lit (.int .u8 128), .lit (.int .u8 191)], .agg [.lit (.int .u8 160), .lit (.int .u8 191)], .agg [.lit (.int .u8 128), .lit (.int .u8 159)], .agg [.lit (.int .u8 144), .lit (.int .u8 191)], .agg [.lit (.int .u8 128), .lit (.int .u8 143)], .agg [.lit (.int .u8 0), .lit (.int .u8 0)], .agg [.lit (.int .u8 0), .lit (.int .u8 0)], .agg [.lit (.int .u8 0), .lit (.int .u8 0)], .agg [.lit (.int .u8 0), .lit (.int .u8 0)], .agg [.lit (.int .u8 0), .lit (.int .u8 0)], .agg [.lit (.int .u8 0), .lit (.int .u8 0)], .agg [.lit (.int .u8 0), .lit (.int .u8 0)], .agg [.lit (.int .u8 0), .lit (.int .u8 0)], .agg [.lit (.int .u8 0), .lit (.int .u8 0)], .agg [.lit (.int .u8 0), .lit (.int .u8 0)], .agg [.lit (.int .u8 0), .lit (.int .u8 0)]]
/-- One of Go's own tables, pinned by name: the form's constant. -/
def laid_unicode_utf8_first : DataW Unit := Go.Pinned.utf8First

/-- 'n002_88.FnSwitch2ConsumesLeadingEqualsRun': WHATEVER THE INPUT: true; the input reads as it did. -/
def fnSwitch2ConsumesLeadingEqualsRunSpec : ChangeSpec := { name := "fnSwitch2ConsumesLeadingEqualsRun", fn := fun _ => fun
  | [d1, d2, d3, d4] => { results := [.lit (.bool true)], args := [d1, d2, d3, d4] }
  | _ => none }
def fnSwitch2ConsumesLeadingEqualsRunRow : OpenClaim := { program := "ytebahaclnbjnoaafmt", sum := "f8f9b21229d452d6baa4100728fff0dc010d68cca13d73452d8a206aed9c1ac0", func := "github.com/d5/tengo/v2/n002_88.FnSwitch2ConsumesLeadingEqualsRun", spec := "fnSwitch2ConsumesLeadingEqualsRun", stops := ["fmt.Sprintf"], inPlace := ["fmt.Sprintf"], unfollowed := true, recurses := true, named := ["unicode/utf8.first", "unicode/utf8.acceptRanges"], apart := false, laid := [("unicode/utf8.acceptRanges", laid_unicode_utf8_acceptRanges), ("unicode/utf8.first", laid_unicode_utf8_first)] }
/-- NO THEOREM (fmt's text is open here; it may be false): for the released tool's asking of the row's closed facts alone. THE STATEMENT IS 'FnSwitch2ConsumesLeadingEqualsRunToldSaid' (YtebahaclnbjnoaaFmtCards.lean). -/
def FnSwitch2ConsumesLeadingEqualsRunFormAsk : Prop := fnSwitch2ConsumesLeadingEqualsRunRow.holds Tryf.pinned (OpenSpec.ofChange fnSwitch2ConsumesLeadingEqualsRunSpec)

/-- ITS FALSE NEIGHBOUR: 'it returns false'. Refute it at one input. -/
def fnSwitch2ConsumesLeadingEqualsRunWrong : ChangeSpec := { name := "fnSwitch2ConsumesLeadingEqualsRun", fn := fun _ => fun
  | [d1, d2, d3, d4] => { results := [.lit (.bool false)], args := [d1, d2, d3, d4] }
  | _ => none }
def FnSwitch2ConsumesLeadingEqualsRunWrongFormAsk : Prop := fnSwitch2ConsumesLeadingEqualsRunRow.holds Tryf.pinned (OpenSpec.ofChange fnSwitch2ConsumesLeadingEqualsRunWrong)

/-- 'n002_88.FnSwitch3RefinesSwitch2': WHATEVER THE INPUT: true; the input reads as it did. -/
def fnSwitch3RefinesSwitch2Spec : ChangeSpec := { name := "fnSwitch3RefinesSwitch2", fn := fun _ => fun
  | [d1, d2, d3, d4, d5, d6] => { results := [.lit (.bool true)], args := [d1, d2, d3, d4, d5, d6] }
  | _ => none }
def fnSwitch3RefinesSwitch2Row : OpenClaim := { program := "ytebahaclnbjnoaafmt", sum := "f8f9b21229d452d6baa4100728fff0dc010d68cca13d73452d8a206aed9c1ac0", func := "github.com/d5/tengo/v2/n002_88.FnSwitch3RefinesSwitch2", spec := "fnSwitch3RefinesSwitch2", stops := ["fmt.Sprintf"], inPlace := ["fmt.Sprintf"], unfollowed := true, recurses := true, named := ["unicode/utf8.first", "unicode/utf8.acceptRanges"], apart := false, laid := [("unicode/utf8.acceptRanges", laid_unicode_utf8_acceptRanges), ("unicode/utf8.first", laid_unicode_utf8_first)] }
/-- NO THEOREM (fmt's text is open here; it may be false): for the released tool's asking of the row's closed facts alone. THE STATEMENT IS 'FnSwitch3RefinesSwitch2ToldSaid' (YtebahaclnbjnoaaFmtCards.lean). -/
def FnSwitch3RefinesSwitch2FormAsk : Prop := fnSwitch3RefinesSwitch2Row.holds Tryf.pinned (OpenSpec.ofChange fnSwitch3RefinesSwitch2Spec)

/-- ITS FALSE NEIGHBOUR: 'it returns false'. Refute it at one input. -/
def fnSwitch3RefinesSwitch2Wrong : ChangeSpec := { name := "fnSwitch3RefinesSwitch2", fn := fun _ => fun
  | [d1, d2, d3, d4, d5, d6] => { results := [.lit (.bool false)], args := [d1, d2, d3, d4, d5, d6] }
  | _ => none }
def FnSwitch3RefinesSwitch2WrongFormAsk : Prop := fnSwitch3RefinesSwitch2Row.holds Tryf.pinned (OpenSpec.ofChange fnSwitch3RefinesSwitch2Wrong)

/-- 'n002_88.FnSwitch4ExtendsSwitch3': WHATEVER THE INPUT: true; the input reads as it did. -/
def fnSwitch4ExtendsSwitch3Spec : ChangeSpec := { name := "fnSwitch4ExtendsSwitch3", fn := fun _ => fun
  | [d1, d2, d3, d4, d5, d6, d7] => { results := [.lit (.bool true)], args := [d1, d2, d3, d4, d5, d6, d7] }
  | _ => none }
def fnSwitch4ExtendsSwitch3Row : OpenClaim := { program := "ytebahaclnbjnoaafmt", sum := "f8f9b21229d452d6baa4100728fff0dc010d68cca13d73452d8a206aed9c1ac0", func := "github.com/d5/tengo/v2/n002_88.FnSwitch4ExtendsSwitch3", spec := "fnSwitch4ExtendsSwitch3", stops := ["fmt.Sprintf"], inPlace := ["fmt.Sprintf"], unfollowed := true, recurses := true, named := ["unicode/utf8.first", "unicode/utf8.acceptRanges"], apart := false, laid := [("unicode/utf8.acceptRanges", laid_unicode_utf8_acceptRanges), ("unicode/utf8.first", laid_unicode_utf8_first)] }
/-- NO THEOREM (fmt's text is open here; it may be false): for the released tool's asking of the row's closed facts alone. THE STATEMENT IS 'FnSwitch4ExtendsSwitch3ToldSaid' (YtebahaclnbjnoaaFmtCards.lean). -/
def FnSwitch4ExtendsSwitch3FormAsk : Prop := fnSwitch4ExtendsSwitch3Row.holds Tryf.pinned (OpenSpec.ofChange fnSwitch4ExtendsSwitch3Spec)

/-- ITS FALSE NEIGHBOUR: 'it returns false'. Refute it at one input. -/
def fnSwitch4ExtendsSwitch3Wrong : ChangeSpec := { name := "fnSwitch4ExtendsSwitch3", fn := fun _ => fun
  | [d1, d2, d3, d4, d5, d6, d7] => { results := [.lit (.bool false)], args := [d1, d2, d3, d4, d5, d6, d7] }
  | _ => none }
def FnSwitch4ExtendsSwitch3WrongFormAsk : Prop := fnSwitch4ExtendsSwitch3Row.holds Tryf.pinned (OpenSpec.ofChange fnSwitch4ExtendsSwitch3Wrong)

end Rows
end Go.Proofs.YtebahaclnbjnoaaFmt
