/-
  Proved: the row's list of the library's UTF-8 tables, as the scanner's contracts want them.
  Conditions: none.
-/
import Derived.Test.YtpdfompeoceklaaFmtLive
import Derived.Test.YtpdfompeoceklaaFmtRows
import Derived.PinnedBridge
import Derived.Lib.LaidU8T
import Derived.Lay
namespace Go.Proofs.YtpdfompeoceklaaFmt.Core
open Go.ChangeShapes Go.WideShapes Go.ChangeAt Go.RowKit
set_option linter.unusedVariables false

def u8ren : Go.Shelf.Ren := ⟨fun n => n, fun | 5 => 5 | 119 => 78 | 138 => 81 | 139 => 82 | n => n, fun | 3 => 0 | 4 => 1 | n => n⟩
theorem u8types : U8Types Tryf.prog u8ren := ⟨by kernel_rfl, by kernel_rfl, by kernel_rfl, by kernel_rfl⟩
theorem u8extra : U8Extra Tryf.prog u8ren := ⟨by kernel_rfl, by kernel_rfl, by kernel_rfl, by kernel_rfl, by kernel_rfl, by kernel_rfl, by kernel_rfl⟩
theorem tabs_of {w : World} (a : Lib.VarReads Tryf.prog w "unicode/utf8.acceptRanges" Rows.laid_unicode_utf8_acceptRanges) (f : Lib.VarReads Tryf.prog w "unicode/utf8.first" Rows.laid_unicode_utf8_first) : Tabs w := by
  have e0 : Rows.laid_unicode_utf8_first = Lib.firstData := Pinned.utf8First_eq
  have e1 : Rows.laid_unicode_utf8_acceptRanges = Lib.acceptData := by kernel_rfl
  rw [e0] at f
  rw [e1] at a
  exact utf8Tabs_of_readsT u8types u8extra f a
end Go.Proofs.YtpdfompeoceklaaFmt.Core
