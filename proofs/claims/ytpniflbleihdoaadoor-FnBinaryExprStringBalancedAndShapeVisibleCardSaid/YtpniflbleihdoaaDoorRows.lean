/-
  NARROWER THAN 'FOR EVERY INPUT', by the rows' own cells (each row's printed sentence says how): FnStringStringASCIIModel: laid · FnBinaryExprStringBalancedAndShapeVisible: laid · FnUndefinedStringExactAndUnlikeStrings: laid · FnBranchStmtSpanMatchesText: laid · FnIsDigitUnicodeDecimalDigits: laid · FnBranchEndTable: laid · FnTruncateFirstPrecRunes: laid.
  DERIVED. THE GIVEN ROWS OF THIS SEAT. 7 by the template 'for every input the law returns true; each argument reads behind the call as it read before'; 0 by the template 'total and deterministic' (their statements: YtpniflbleihdoaaDoorTotals.lean).
  GIVEN WITH THE SEED: the statements are not yours to turn. If you find one false, say at which input.
  Laid BY PROGRAM, IN A SANDBOX (cutbox-rows.mjs): the forced cells as the released guide's own fill.sh prints them over the translation 1ac44a853ae471ca… (all of the seat's roots in one cut). By AI agents, Wed Nov 11 2026. No macro, syntax, notation, axiom, sorry.
-/
import Derived.Test.YtpniflbleihdoaaDoorChecked
import GoSem.PinnedTables
import GoSem.Claim
import GoSem.ClaimJoined
import GoSem.ClaimMapViews
import Derived.JoinedTies
import Derived.KernelRfl
namespace Go.Proofs.YtpniflbleihdoaaDoor
/- THE CELL 'sum', in the pinned program and in every row, IS THE sha256 OF THE DUMP (.gsa) THAT YtpniflbleihdoaaDoorProg.lean LOADS. Nothing in Lean hashes anything: it is a label: what it is worth is what the hold of that sum in a sandbox is worth. -/
noncomputable def Tryd.pinned : Pinned := { name := "ytpniflbleihdoaadoor", sum := "1ac44a853ae471cada572982d48e08a93a582a846f238033a8e16efd752da845", checked := Tryd.checked }
namespace Rows
def none {H : Type} : Left H := { results := [], args := [] }

/- WHAT THE LISTED PACKAGE-LEVEL VARIABLES READ AS WHEN THE CALL BEGINS. Each datum BY PROGRAM (the guide's laid-datum.mjs) off the statement by which the dump's own 'gosem.cut.vars' lays the variable. In a bare row this is a premise. The card (YtpniflbleihdoaaDoorCards.lean) ties it to the program's text. -/
def laid_unicode_utf8_acceptRanges {H : Type} : DataW H := .agg [.agg [.lit (.int .u8 128), .lit (.int .u8 191)], .agg [.lit (.int .u8 160), .lit (.int .u8 191)], .agg [.lit (.int .u8 128), .lit (.int .u8 159)], .agg [.lit (.int .u8 144), .lit (.int .u8 191)], .agg [.lit (.int .u8 128), .lit (.int .u8 143)], .agg [.lit (.int .u8 0), .lit (.int .u8 0)], .agg [.lit (.int .u8 0), .lit (.int .u8 0)], .agg [.lit (.int .u8 0), .lit (.int .u8 0)], .agg [.lit (.int .u8 0), .lit (.int .u8 0)], .agg [.lit (.int .u8 0), .lit (.int .u8 0)], .agg [.lit (.int .u8 0), .lit (.int .u8 0)], .agg [.lit (.int .u8 0), .lit (.int .u8 0)], .agg [.lit (.int .u8 0), .lit (.int .u8 0)], .agg [.lit (.int .u8 0), .lit (.int .u8 0)], .agg [.lit (.int .u8 0), .lit (.int .u8 0)], .agg [.lit (.int .u8 0), .lit (.int .u8 0)]]
/-- One of Go's own tables, pinned by name: the form's constant. -/
def laid_strconv_isGraphic : DataW Unit := Go.Pinned.isGraphic
/-- One of Go's own tables, pinned by name: the form's constant. -/
def laid_strconv_isNotPrint16 : DataW Unit := Go.Pinned.isNotPrint16
/-- One of Go's own tables, pinned by name: the form's constant. -/
def laid_strconv_isNotPrint32 : DataW Unit := Go.Pinned.isNotPrint32
/-- One of Go's own tables, pinned by name: the form's constant. -/
def laid_strconv_isPrint16 : DataW Unit := Go.Pinned.isPrint16
/-- One of Go's own tables, pinned by name: the form's constant. -/
def laid_strconv_isPrint32 : DataW Unit := Go.Pinned.isPrint32
/-- One of Go's own tables, pinned by name: the form's constant. -/
def laid_unicode_utf8_first : DataW Unit := Go.Pinned.utf8First
def laid_math_bits_deBruijn32tab {H : Type} : DataW H := .agg [.lit (.int .u8 0), .lit (.int .u8 1), .lit (.int .u8 28), .lit (.int .u8 2), .lit (.int .u8 29), .lit (.int .u8 14), .lit (.int .u8 24), .lit (.int .u8 3), .lit (.int .u8 30), .lit (.int .u8 22), .lit (.int .u8 20), .lit (.int .u8 15), .lit (.int .u8 25), .lit (.int .u8 17), .lit (.int .u8 4), .lit (.int .u8 8), .lit (.int .u8 31), .lit (.int .u8 27), .lit (.int .u8 13), .lit (.int .u8 23), .lit (.int .u8 21), .lit (.int .u8 19), .lit (.int .u8 16), .lit (.int .u8 7), .lit (.int .u8 26), .lit (.int .u8 12), .lit (.int .u8 18), .lit (.int .u8 6), .lit (.int .u8 11), .lit (.int .u8 5), .lit (.int .u8 10), .lit (.int .u8 9)]
def laid_math_bits_deBruijn64tab {H : Type} : DataW H := .agg [.lit (.int .u8 0), .lit (.int .u8 1), .lit (.int .u8 56), .lit (.int .u8 2), .lit (.int .u8 57), .lit (.int .u8 49), .lit (.int .u8 28), .lit (.int .u8 3), .lit (.int .u8 61), .lit (.int .u8 58), .lit (.int .u8 42), .lit (.int .u8 50), .lit (.int .u8 38), .lit (.int .u8 29), .lit (.int .u8 17), .lit (.int .u8 4), .lit (.int .u8 62), .lit (.int .u8 47), .lit (.int .u8 59), .lit (.int .u8 36), .lit (.int .u8 45), .lit (.int .u8 43), .lit (.int .u8 51), .lit (.int .u8 22), .lit (.int .u8 53), .lit (.int .u8 39), .lit (.int .u8 33), .lit (.int .u8 30), .lit (.int .u8 24), .lit (.int .u8 18), .lit (.int .u8 12), .lit (.int .u8 5), .lit (.int .u8 63), .lit (.int .u8 55), .lit (.int .u8 48), .lit (.int .u8 27), .lit (.int .u8 60), .lit (.int .u8 41), .lit (.int .u8 37), .lit (.int .u8 16), .lit (.int .u8 46), .lit (.int .u8 35), .lit (.int .u8 44), .lit (.int .u8 21), .lit (.int .u8 52), .lit (.int .u8 32), .lit (.int .u8 23), .lit (.int .u8 11), .lit (.int .u8 54), .lit (.int .u8 26), .lit (.int .u8 40), .lit (.int .u8 15), .lit (.int .u8 34), .lit (.int .u8 20), .lit (.int .u8 31), .lit (.int .u8 10), .lit (.int .u8 25), .lit (.int .u8 14), .lit (.int .u8 19), .lit (.int .u8 9), .lit (.int .u8 13), .lit (.int .u8 8), .lit (.int .u8 7), .lit (.int .u8 6)]
def laid_internal_strconv_uint64pow10 {H : Type} : DataW H := .agg [.lit (.int .u64 1), .lit (.int .u64 10), .lit (.int .u64 100), .lit (.int .u64 1000), .lit (.int .u64 10000), .lit (.int .u64 100000), .lit (.int .u64 1000000), .lit (.int .u64 10000000), .lit (.int .u64 100000000), .lit (.int .u64 1000000000), .lit (.int .u64 10000000000), .lit (.int .u64 100000000000), .lit (.int .u64 1000000000000), .lit (.int .u64 10000000000000), .lit (.int .u64 100000000000000), .lit (.int .u64 1000000000000000), .lit (.int .u64 10000000000000000), .lit (.int .u64 100000000000000000), .lit (.int .u64 1000000000000000000), .lit (.int .u64 10000000000000000000)]
def laid_github_com_d5_tengo_v2_token_tokens {H : Type} : DataW H := .agg [.lit (.string [73, 76, 76, 69, 71, 65, 76]), .lit (.string [69, 79, 70]), .lit (.string [67, 79, 77, 77, 69, 78, 84]), .lit (.string []), .lit (.string [73, 68, 69, 78, 84]), .lit (.string [73, 78, 84]), .lit (.string [70, 76, 79, 65, 84]), .lit (.string [67, 72, 65, 82]), .lit (.string [83, 84, 82, 73, 78, 71]), .lit (.string []), .lit (.string []), .lit (.string [43]), .lit (.string [45]), .lit (.string [42]), .lit (.string [47]), .lit (.string [37]), .lit (.string [38]), .lit (.string [124]), .lit (.string [94]), .lit (.string [60, 60]), .lit (.string [62, 62]), .lit (.string [38, 94]), .lit (.string [43, 61]), .lit (.string [45, 61]), .lit (.string [42, 61]), .lit (.string [47, 61]), .lit (.string [37, 61]), .lit (.string [38, 61]), .lit (.string [124, 61]), .lit (.string [94, 61]), .lit (.string [60, 60, 61]), .lit (.string [62, 62, 61]), .lit (.string [38, 94, 61]), .lit (.string [38, 38]), .lit (.string [124, 124]), .lit (.string [43, 43]), .lit (.string [45, 45]), .lit (.string [61, 61]), .lit (.string [60]), .lit (.string [62]), .lit (.string [61]), .lit (.string [33]), .lit (.string [33, 61]), .lit (.string [60, 61]), .lit (.string [62, 61]), .lit (.string [58, 61]), .lit (.string [46, 46, 46]), .lit (.string [40]), .lit (.string [91]), .lit (.string [123]), .lit (.string [44]), .lit (.string [46]), .lit (.string [41]), .lit (.string [93]), .lit (.string [125]), .lit (.string [59]), .lit (.string [58]), .lit (.string [63]), .lit (.string []), .lit (.string []), .lit (.string [98, 114, 101, 97, 107]), .lit (.string [99, 111, 110, 116, 105, 110, 117, 101]), .lit (.string [101, 108, 115, 101]), .lit (.string [102, 111, 114]), .lit (.string [102, 117, 110, 99]), .lit (.string [101, 114, 114, 111, 114]), .lit (.string [105, 109, 109, 117, 116, 97, 98, 108, 101]), .lit (.string [105, 102]), .lit (.string [114, 101, 116, 117, 114, 110]), .lit (.string [101, 120, 112, 111, 114, 116]), .lit (.string [116, 114, 117, 101]), .lit (.string [102, 97, 108, 115, 101]), .lit (.string [105, 110]), .lit (.string [117, 110, 100, 101, 102, 105, 110, 101, 100]), .lit (.string [105, 109, 112, 111, 114, 116])]
/-- One of Go's own tables, pinned by name: the form's constant. -/
def laid_unicode_Digit : DataW Unit := Go.Pinned.digit

/-- 'n002_71.FnStringStringASCIIModel': WHATEVER THE INPUT: true; the input reads as it did. -/
def fnStringStringASCIIModelSpec : ChangeSpec := { name := "fnStringStringASCIIModel", fn := fun _ => fun
  | [d] => { results := [.lit (.bool true)], args := [d] }
  | _ => none }
def fnStringStringASCIIModelRow : OpenClaim := { program := "ytpniflbleihdoaadoor", sum := "1ac44a853ae471cada572982d48e08a93a582a846f238033a8e16efd752da845", func := "github.com/d5/tengo/v2/n002_71.FnStringStringASCIIModel", spec := "fnStringStringASCIIModel", named := ["unicode/utf8.first", "unicode/utf8.acceptRanges", "strconv.isPrint16", "strconv.isNotPrint16", "strconv.isPrint32", "strconv.isNotPrint32", "strconv.isGraphic"], apart := false, laid := [("unicode/utf8.acceptRanges", laid_unicode_utf8_acceptRanges), ("strconv.isGraphic", laid_strconv_isGraphic), ("strconv.isNotPrint16", laid_strconv_isNotPrint16), ("strconv.isNotPrint32", laid_strconv_isNotPrint32), ("strconv.isPrint16", laid_strconv_isPrint16), ("strconv.isPrint32", laid_strconv_isPrint32), ("unicode/utf8.first", laid_unicode_utf8_first)] }
def FnStringStringASCIIModelSaid : Prop := fnStringStringASCIIModelRow.holds Tryd.pinned (OpenSpec.ofChange fnStringStringASCIIModelSpec)

/-- ITS FALSE NEIGHBOUR: 'it returns false'. Refute it at one input. -/
def fnStringStringASCIIModelWrong : ChangeSpec := { name := "fnStringStringASCIIModel", fn := fun _ => fun
  | [d] => { results := [.lit (.bool false)], args := [d] }
  | _ => none }
def FnStringStringASCIIModelWrongFalsely : Prop := fnStringStringASCIIModelRow.holds Tryd.pinned (OpenSpec.ofChange fnStringStringASCIIModelWrong)

/-- 'n002_79.FnBinaryExprStringBalancedAndShapeVisible': WHATEVER THE INPUT: true; the input reads as it did. -/
def fnBinaryExprStringBalancedAndShapeVisibleSpec : ChangeSpec := { name := "fnBinaryExprStringBalancedAndShapeVisible", vars := ["github.com/d5/tengo/v2/token.tokens"], fn := fun _ => fun
  | [d1, d2, g1] => { results := [.lit (.bool true)], args := [d1, d2], vars := [g1] }
  | _ => none }
def fnBinaryExprStringBalancedAndShapeVisibleRow : OpenClaim := { program := "ytpniflbleihdoaadoor", sum := "1ac44a853ae471cada572982d48e08a93a582a846f238033a8e16efd752da845", func := "github.com/d5/tengo/v2/n002_79.FnBinaryExprStringBalancedAndShapeVisible", spec := "fnBinaryExprStringBalancedAndShapeVisible", unfollowed := true, recurses := true, named := ["github.com/d5/tengo/v2/token.tokens", "internal/strconv.uint64pow10", "math/bits.deBruijn32tab", "math/bits.deBruijn64tab"], apart := false, laid := [("math/bits.deBruijn32tab", laid_math_bits_deBruijn32tab), ("math/bits.deBruijn64tab", laid_math_bits_deBruijn64tab), ("internal/strconv.uint64pow10", laid_internal_strconv_uint64pow10), ("github.com/d5/tengo/v2/token.tokens", laid_github_com_d5_tengo_v2_token_tokens)] }
def FnBinaryExprStringBalancedAndShapeVisibleSaid : Prop := fnBinaryExprStringBalancedAndShapeVisibleRow.holds Tryd.pinned (OpenSpec.ofChange fnBinaryExprStringBalancedAndShapeVisibleSpec)

/-- ITS FALSE NEIGHBOUR: 'it returns false'. Refute it at one input. -/
def fnBinaryExprStringBalancedAndShapeVisibleWrong : ChangeSpec := { name := "fnBinaryExprStringBalancedAndShapeVisible", vars := ["github.com/d5/tengo/v2/token.tokens"], fn := fun _ => fun
  | [d1, d2, g1] => { results := [.lit (.bool false)], args := [d1, d2], vars := [g1] }
  | _ => none }
def FnBinaryExprStringBalancedAndShapeVisibleWrongFalsely : Prop := fnBinaryExprStringBalancedAndShapeVisibleRow.holds Tryd.pinned (OpenSpec.ofChange fnBinaryExprStringBalancedAndShapeVisibleWrong)

/-- 'n002_141.FnUndefinedStringExactAndUnlikeStrings': WHATEVER THE INPUT: true; the input reads as it did. -/
def fnUndefinedStringExactAndUnlikeStringsSpec : ChangeSpec := { name := "fnUndefinedStringExactAndUnlikeStrings", fn := fun _ => fun
  | [d1, d2] => { results := [.lit (.bool true)], args := [d1, d2] }
  | _ => none }
def fnUndefinedStringExactAndUnlikeStringsRow : OpenClaim := { program := "ytpniflbleihdoaadoor", sum := "1ac44a853ae471cada572982d48e08a93a582a846f238033a8e16efd752da845", func := "github.com/d5/tengo/v2/n002_141.FnUndefinedStringExactAndUnlikeStrings", spec := "fnUndefinedStringExactAndUnlikeStrings", named := ["unicode/utf8.first", "unicode/utf8.acceptRanges", "strconv.isPrint16", "strconv.isNotPrint16", "strconv.isPrint32", "strconv.isNotPrint32", "strconv.isGraphic", "internal/strconv.uint64pow10", "math/bits.deBruijn32tab", "math/bits.deBruijn64tab"], apart := false, laid := [("math/bits.deBruijn32tab", laid_math_bits_deBruijn32tab), ("math/bits.deBruijn64tab", laid_math_bits_deBruijn64tab), ("internal/strconv.uint64pow10", laid_internal_strconv_uint64pow10), ("unicode/utf8.acceptRanges", laid_unicode_utf8_acceptRanges), ("strconv.isGraphic", laid_strconv_isGraphic), ("strconv.isNotPrint16", laid_strconv_isNotPrint16), ("strconv.isNotPrint32", laid_strconv_isNotPrint32), ("strconv.isPrint16", laid_strconv_isPrint16), ("strconv.isPrint32", laid_strconv_isPrint32), ("unicode/utf8.first", laid_unicode_utf8_first)] }
def FnUndefinedStringExactAndUnlikeStringsSaid : Prop := fnUndefinedStringExactAndUnlikeStringsRow.holds Tryd.pinned (OpenSpec.ofChange fnUndefinedStringExactAndUnlikeStringsSpec)

/-- ITS FALSE NEIGHBOUR: 'it returns false'. Refute it at one input. -/
def fnUndefinedStringExactAndUnlikeStringsWrong : ChangeSpec := { name := "fnUndefinedStringExactAndUnlikeStrings", fn := fun _ => fun
  | [d1, d2] => { results := [.lit (.bool false)], args := [d1, d2] }
  | _ => none }
def FnUndefinedStringExactAndUnlikeStringsWrongFalsely : Prop := fnUndefinedStringExactAndUnlikeStringsRow.holds Tryd.pinned (OpenSpec.ofChange fnUndefinedStringExactAndUnlikeStringsWrong)

/-- 'n002_29.FnBranchStmtSpanMatchesText': WHATEVER THE INPUT: true; the input reads as it did. -/
def fnBranchStmtSpanMatchesTextSpec : ChangeSpec := { name := "fnBranchStmtSpanMatchesText", vars := ["github.com/d5/tengo/v2/token.tokens"], fn := fun _ => fun
  | [d1, d2, d3, d4, g1] => { results := [.lit (.bool true)], args := [d1, d2, d3, d4], vars := [g1] }
  | _ => none }
def fnBranchStmtSpanMatchesTextRow : OpenClaim := { program := "ytpniflbleihdoaadoor", sum := "1ac44a853ae471cada572982d48e08a93a582a846f238033a8e16efd752da845", func := "github.com/d5/tengo/v2/n002_29.FnBranchStmtSpanMatchesText", spec := "fnBranchStmtSpanMatchesText", named := ["github.com/d5/tengo/v2/token.tokens", "internal/strconv.uint64pow10", "math/bits.deBruijn32tab", "math/bits.deBruijn64tab"], apart := false, laid := [("math/bits.deBruijn32tab", laid_math_bits_deBruijn32tab), ("math/bits.deBruijn64tab", laid_math_bits_deBruijn64tab), ("internal/strconv.uint64pow10", laid_internal_strconv_uint64pow10), ("github.com/d5/tengo/v2/token.tokens", laid_github_com_d5_tengo_v2_token_tokens)] }
def FnBranchStmtSpanMatchesTextSaid : Prop := fnBranchStmtSpanMatchesTextRow.holds Tryd.pinned (OpenSpec.ofChange fnBranchStmtSpanMatchesTextSpec)

/-- ITS FALSE NEIGHBOUR: 'it returns false'. Refute it at one input. -/
def fnBranchStmtSpanMatchesTextWrong : ChangeSpec := { name := "fnBranchStmtSpanMatchesText", vars := ["github.com/d5/tengo/v2/token.tokens"], fn := fun _ => fun
  | [d1, d2, d3, d4, g1] => { results := [.lit (.bool false)], args := [d1, d2, d3, d4], vars := [g1] }
  | _ => none }
def FnBranchStmtSpanMatchesTextWrongFalsely : Prop := fnBranchStmtSpanMatchesTextRow.holds Tryd.pinned (OpenSpec.ofChange fnBranchStmtSpanMatchesTextWrong)

/-- 'n002_109.FnIsDigitUnicodeDecimalDigits': WHATEVER THE INPUT: true; the input reads as it did. -/
def fnIsDigitUnicodeDecimalDigitsSpec : ChangeSpec := { name := "fnIsDigitUnicodeDecimalDigits", fn := fun _ => fun
  | [d1, d2] => { results := [.lit (.bool true)], args := [d1, d2] }
  | _ => none }
def fnIsDigitUnicodeDecimalDigitsRow : OpenClaim := { program := "ytpniflbleihdoaadoor", sum := "1ac44a853ae471cada572982d48e08a93a582a846f238033a8e16efd752da845", func := "github.com/d5/tengo/v2/n002_109.FnIsDigitUnicodeDecimalDigits", spec := "fnIsDigitUnicodeDecimalDigits", named := ["unicode.Digit"], apart := false, laid := [("unicode.Digit", laid_unicode_Digit)] }
def FnIsDigitUnicodeDecimalDigitsSaid : Prop := fnIsDigitUnicodeDecimalDigitsRow.holds Tryd.pinned (OpenSpec.ofChange fnIsDigitUnicodeDecimalDigitsSpec)

/-- ITS FALSE NEIGHBOUR: 'it returns false'. Refute it at one input. -/
def fnIsDigitUnicodeDecimalDigitsWrong : ChangeSpec := { name := "fnIsDigitUnicodeDecimalDigits", fn := fun _ => fun
  | [d1, d2] => { results := [.lit (.bool false)], args := [d1, d2] }
  | _ => none }
def FnIsDigitUnicodeDecimalDigitsWrongFalsely : Prop := fnIsDigitUnicodeDecimalDigitsRow.holds Tryd.pinned (OpenSpec.ofChange fnIsDigitUnicodeDecimalDigitsWrong)

/-- 'n002_10.FnBranchEndTable': WHATEVER THE INPUT: true; the input reads as it did. -/
def fnBranchEndTableSpec : ChangeSpec := { name := "fnBranchEndTable", vars := ["github.com/d5/tengo/v2/token.tokens"], fn := fun _ => fun
  | [d1, d2, d3, d4, d5, g1] => { results := [.lit (.bool true)], args := [d1, d2, d3, d4, d5], vars := [g1] }
  | _ => none }
def fnBranchEndTableRow : OpenClaim := { program := "ytpniflbleihdoaadoor", sum := "1ac44a853ae471cada572982d48e08a93a582a846f238033a8e16efd752da845", func := "github.com/d5/tengo/v2/n002_10.FnBranchEndTable", spec := "fnBranchEndTable", named := ["github.com/d5/tengo/v2/token.tokens", "internal/strconv.uint64pow10", "math/bits.deBruijn32tab", "math/bits.deBruijn64tab"], apart := false, laid := [("math/bits.deBruijn32tab", laid_math_bits_deBruijn32tab), ("math/bits.deBruijn64tab", laid_math_bits_deBruijn64tab), ("internal/strconv.uint64pow10", laid_internal_strconv_uint64pow10), ("github.com/d5/tengo/v2/token.tokens", laid_github_com_d5_tengo_v2_token_tokens)] }
def FnBranchEndTableSaid : Prop := fnBranchEndTableRow.holds Tryd.pinned (OpenSpec.ofChange fnBranchEndTableSpec)

/-- ITS FALSE NEIGHBOUR: 'it returns false'. Refute it at one input. -/
def fnBranchEndTableWrong : ChangeSpec := { name := "fnBranchEndTable", vars := ["github.com/d5/tengo/v2/token.tokens"], fn := fun _ => fun
  | [d1, d2, d3, d4, d5, g1] => { results := [.lit (.bool false)], args := [d1, d2, d3, d4, d5], vars := [g1] }
  | _ => none }
def FnBranchEndTableWrongFalsely : Prop := fnBranchEndTableRow.holds Tryd.pinned (OpenSpec.ofChange fnBranchEndTableWrong)

/-- 'n002_112.FnTruncateFirstPrecRunes': WHATEVER THE INPUT: true; the input reads as it did. -/
def fnTruncateFirstPrecRunesSpec : ChangeSpec := { name := "fnTruncateFirstPrecRunes", fn := fun _ => fun
  | [d1, d2, d3] => { results := [.lit (.bool true)], args := [d1, d2, d3] }
  | _ => none }
def fnTruncateFirstPrecRunesRow : OpenClaim := { program := "ytpniflbleihdoaadoor", sum := "1ac44a853ae471cada572982d48e08a93a582a846f238033a8e16efd752da845", func := "github.com/d5/tengo/v2/n002_112.FnTruncateFirstPrecRunes", spec := "fnTruncateFirstPrecRunes", named := ["unicode/utf8.first", "unicode/utf8.acceptRanges"], apart := false, laid := [("unicode/utf8.acceptRanges", laid_unicode_utf8_acceptRanges), ("unicode/utf8.first", laid_unicode_utf8_first)] }
def FnTruncateFirstPrecRunesSaid : Prop := fnTruncateFirstPrecRunesRow.holds Tryd.pinned (OpenSpec.ofChange fnTruncateFirstPrecRunesSpec)

/-- ITS FALSE NEIGHBOUR: 'it returns false'. Refute it at one input. -/
def fnTruncateFirstPrecRunesWrong : ChangeSpec := { name := "fnTruncateFirstPrecRunes", fn := fun _ => fun
  | [d1, d2, d3] => { results := [.lit (.bool false)], args := [d1, d2, d3] }
  | _ => none }
def FnTruncateFirstPrecRunesWrongFalsely : Prop := fnTruncateFirstPrecRunesRow.holds Tryd.pinned (OpenSpec.ofChange fnTruncateFirstPrecRunesWrong)

/- THE SECOND FORM. 'bulk': how many values and letters a reading holds, each counted each time it is reached (what is shared counts as often as it is met; a slice's spare places count too). A statement '..UptoSaid' is the law's where the arguments, and the package variables that the reading takes, are together of bulk at most 1048576: NARROWER than '..Said'. Prove '..Said' where nothing that the law and all that it calls make is longer than what came in: it says more and counts as full. Else prove '..UptoSaid'. A law counts once. -/
mutual
def uptoBulk {H : Type} : DataW H → Nat
  | .lit (.string bytes) => bytes.length + 1
  | .lit _ => 1
  | .nil => 1
  | .ptr d => uptoBulk d + 1
  | .slice elems spare => uptoBulkAll elems + uptoBulkAll spare + 1
  | .agg parts => uptoBulkAll parts + 1
  | .iface _ d => uptoBulk d + 1
  | .map entries => uptoBulkEntries entries + 1
  | .held _ => 1
def uptoBulkAll {H : Type} : List (DataW H) → Nat
  | [] => 0
  | d :: r => uptoBulk d + uptoBulkAll r
def uptoBulkEntries {H : Type} : List (Lit × DataW H) → Nat
  | [] => 0
  | x :: r => uptoBulkEntry x + uptoBulkEntries r
def uptoBulkEntry {H : Type} : Lit × DataW H → Nat
  | (.string bytes, d) => bytes.length + uptoBulk d + 1
  | (_, d) => uptoBulk d + 1
 end
def uptoSmall : (H : Type) → List (DataW H) → Bool := fun _ ds => decide (uptoBulkAll ds ≤ 1048576)
def OpenSpec.upto (s : _root_.Go.ChangeSpec) : _root_.Go.OpenSpec := { _root_.Go.OpenSpec.ofChange s with cond := some uptoSmall }

/-- 'n002_71.FnStringStringASCIIModel', WHERE WHAT IT READS IS OF BULK AT MOST 1048576: true; the input reads as it did. -/
def fnStringStringASCIIModelUptoRow : OpenClaim := { program := "ytpniflbleihdoaadoor", sum := "1ac44a853ae471cada572982d48e08a93a582a846f238033a8e16efd752da845", func := "github.com/d5/tengo/v2/n002_71.FnStringStringASCIIModel", spec := "fnStringStringASCIIModel", named := ["unicode/utf8.first", "unicode/utf8.acceptRanges", "strconv.isPrint16", "strconv.isNotPrint16", "strconv.isPrint32", "strconv.isNotPrint32", "strconv.isGraphic"], apart := false, laid := [("unicode/utf8.acceptRanges", laid_unicode_utf8_acceptRanges), ("strconv.isGraphic", laid_strconv_isGraphic), ("strconv.isNotPrint16", laid_strconv_isNotPrint16), ("strconv.isNotPrint32", laid_strconv_isNotPrint32), ("strconv.isPrint16", laid_strconv_isPrint16), ("strconv.isPrint32", laid_strconv_isPrint32), ("unicode/utf8.first", laid_unicode_utf8_first)], narrowed := true }
def FnStringStringASCIIModelUptoSaid : Prop := fnStringStringASCIIModelUptoRow.holds Tryd.pinned (OpenSpec.upto fnStringStringASCIIModelSpec)

/-- 'n002_79.FnBinaryExprStringBalancedAndShapeVisible', WHERE WHAT IT READS IS OF BULK AT MOST 1048576: true; the input reads as it did. -/
def fnBinaryExprStringBalancedAndShapeVisibleUptoRow : OpenClaim := { program := "ytpniflbleihdoaadoor", sum := "1ac44a853ae471cada572982d48e08a93a582a846f238033a8e16efd752da845", func := "github.com/d5/tengo/v2/n002_79.FnBinaryExprStringBalancedAndShapeVisible", spec := "fnBinaryExprStringBalancedAndShapeVisible", unfollowed := true, recurses := true, named := ["github.com/d5/tengo/v2/token.tokens", "internal/strconv.uint64pow10", "math/bits.deBruijn32tab", "math/bits.deBruijn64tab"], apart := false, laid := [("math/bits.deBruijn32tab", laid_math_bits_deBruijn32tab), ("math/bits.deBruijn64tab", laid_math_bits_deBruijn64tab), ("internal/strconv.uint64pow10", laid_internal_strconv_uint64pow10), ("github.com/d5/tengo/v2/token.tokens", laid_github_com_d5_tengo_v2_token_tokens)], narrowed := true }
def FnBinaryExprStringBalancedAndShapeVisibleUptoSaid : Prop := fnBinaryExprStringBalancedAndShapeVisibleUptoRow.holds Tryd.pinned (OpenSpec.upto fnBinaryExprStringBalancedAndShapeVisibleSpec)

/-- 'n002_141.FnUndefinedStringExactAndUnlikeStrings', WHERE WHAT IT READS IS OF BULK AT MOST 1048576: true; the input reads as it did. -/
def fnUndefinedStringExactAndUnlikeStringsUptoRow : OpenClaim := { program := "ytpniflbleihdoaadoor", sum := "1ac44a853ae471cada572982d48e08a93a582a846f238033a8e16efd752da845", func := "github.com/d5/tengo/v2/n002_141.FnUndefinedStringExactAndUnlikeStrings", spec := "fnUndefinedStringExactAndUnlikeStrings", named := ["unicode/utf8.first", "unicode/utf8.acceptRanges", "strconv.isPrint16", "strconv.isNotPrint16", "strconv.isPrint32", "strconv.isNotPrint32", "strconv.isGraphic", "internal/strconv.uint64pow10", "math/bits.deBruijn32tab", "math/bits.deBruijn64tab"], apart := false, laid := [("math/bits.deBruijn32tab", laid_math_bits_deBruijn32tab), ("math/bits.deBruijn64tab", laid_math_bits_deBruijn64tab), ("internal/strconv.uint64pow10", laid_internal_strconv_uint64pow10), ("unicode/utf8.acceptRanges", laid_unicode_utf8_acceptRanges), ("strconv.isGraphic", laid_strconv_isGraphic), ("strconv.isNotPrint16", laid_strconv_isNotPrint16), ("strconv.isNotPrint32", laid_strconv_isNotPrint32), ("strconv.isPrint16", laid_strconv_isPrint16), ("strconv.isPrint32", laid_strconv_isPrint32), ("unicode/utf8.first", laid_unicode_utf8_first)], narrowed := true }
def FnUndefinedStringExactAndUnlikeStringsUptoSaid : Prop := fnUndefinedStringExactAndUnlikeStringsUptoRow.holds Tryd.pinned (OpenSpec.upto fnUndefinedStringExactAndUnlikeStringsSpec)

/-- 'n002_29.FnBranchStmtSpanMatchesText', WHERE WHAT IT READS IS OF BULK AT MOST 1048576: true; the input reads as it did. -/
def fnBranchStmtSpanMatchesTextUptoRow : OpenClaim := { program := "ytpniflbleihdoaadoor", sum := "1ac44a853ae471cada572982d48e08a93a582a846f238033a8e16efd752da845", func := "github.com/d5/tengo/v2/n002_29.FnBranchStmtSpanMatchesText", spec := "fnBranchStmtSpanMatchesText", named := ["github.com/d5/tengo/v2/token.tokens", "internal/strconv.uint64pow10", "math/bits.deBruijn32tab", "math/bits.deBruijn64tab"], apart := false, laid := [("math/bits.deBruijn32tab", laid_math_bits_deBruijn32tab), ("math/bits.deBruijn64tab", laid_math_bits_deBruijn64tab), ("internal/strconv.uint64pow10", laid_internal_strconv_uint64pow10), ("github.com/d5/tengo/v2/token.tokens", laid_github_com_d5_tengo_v2_token_tokens)], narrowed := true }
def FnBranchStmtSpanMatchesTextUptoSaid : Prop := fnBranchStmtSpanMatchesTextUptoRow.holds Tryd.pinned (OpenSpec.upto fnBranchStmtSpanMatchesTextSpec)

/-- 'n002_109.FnIsDigitUnicodeDecimalDigits', WHERE WHAT IT READS IS OF BULK AT MOST 1048576: true; the input reads as it did. -/
def fnIsDigitUnicodeDecimalDigitsUptoRow : OpenClaim := { program := "ytpniflbleihdoaadoor", sum := "1ac44a853ae471cada572982d48e08a93a582a846f238033a8e16efd752da845", func := "github.com/d5/tengo/v2/n002_109.FnIsDigitUnicodeDecimalDigits", spec := "fnIsDigitUnicodeDecimalDigits", named := ["unicode.Digit"], apart := false, laid := [("unicode.Digit", laid_unicode_Digit)], narrowed := true }
def FnIsDigitUnicodeDecimalDigitsUptoSaid : Prop := fnIsDigitUnicodeDecimalDigitsUptoRow.holds Tryd.pinned (OpenSpec.upto fnIsDigitUnicodeDecimalDigitsSpec)

/-- 'n002_10.FnBranchEndTable', WHERE WHAT IT READS IS OF BULK AT MOST 1048576: true; the input reads as it did. -/
def fnBranchEndTableUptoRow : OpenClaim := { program := "ytpniflbleihdoaadoor", sum := "1ac44a853ae471cada572982d48e08a93a582a846f238033a8e16efd752da845", func := "github.com/d5/tengo/v2/n002_10.FnBranchEndTable", spec := "fnBranchEndTable", named := ["github.com/d5/tengo/v2/token.tokens", "internal/strconv.uint64pow10", "math/bits.deBruijn32tab", "math/bits.deBruijn64tab"], apart := false, laid := [("math/bits.deBruijn32tab", laid_math_bits_deBruijn32tab), ("math/bits.deBruijn64tab", laid_math_bits_deBruijn64tab), ("internal/strconv.uint64pow10", laid_internal_strconv_uint64pow10), ("github.com/d5/tengo/v2/token.tokens", laid_github_com_d5_tengo_v2_token_tokens)], narrowed := true }
def FnBranchEndTableUptoSaid : Prop := fnBranchEndTableUptoRow.holds Tryd.pinned (OpenSpec.upto fnBranchEndTableSpec)

/-- 'n002_112.FnTruncateFirstPrecRunes', WHERE WHAT IT READS IS OF BULK AT MOST 1048576: true; the input reads as it did. -/
def fnTruncateFirstPrecRunesUptoRow : OpenClaim := { program := "ytpniflbleihdoaadoor", sum := "1ac44a853ae471cada572982d48e08a93a582a846f238033a8e16efd752da845", func := "github.com/d5/tengo/v2/n002_112.FnTruncateFirstPrecRunes", spec := "fnTruncateFirstPrecRunes", named := ["unicode/utf8.first", "unicode/utf8.acceptRanges"], apart := false, laid := [("unicode/utf8.acceptRanges", laid_unicode_utf8_acceptRanges), ("unicode/utf8.first", laid_unicode_utf8_first)], narrowed := true }
def FnTruncateFirstPrecRunesUptoSaid : Prop := fnTruncateFirstPrecRunesUptoRow.holds Tryd.pinned (OpenSpec.upto fnTruncateFirstPrecRunesSpec)

end Rows
end Go.Proofs.YtpniflbleihdoaaDoor
