/-
  Proved: a string's bytes as a list; what []byte(s) leaves; a list as a string.
  Conditions: none.
-/
import Derived.Test.YtpdfompeoceklaaFmtLit
import Derived.Lib.ConvBytes
import Derived.Laws.AppendOwn
namespace Go.Proofs.YtpdfompeoceklaaFmt.Core
open Go.ChangeShapes Go.WideShapes Go.ChangeAt Go.RowKit
set_option linter.unusedVariables false

theorem str_len (s : ByteArray) : s.data.toList.length = s.size := by simp
theorem str_bt (s : ByteArray) (k : Nat) (h : k < s.size) : bt s.data.toList k = s[k].toNat := by
  unfold bt
  rw [List.getD_eq_getElem?_getD, List.getElem?_eq_getElem (by simpa using h), Option.getD_some]
  rfl
theorem conv_below (w : World) (e : TypeId) (s : ByteArray) : Below w.heap.size w (Lib.bytesWorld w e s) :=
  ⟨rfl, rfl, rfl, by rw [Lib.bytesWorld_size]; omega, fun i hi => Lib.bytesWorld_at_old w e s i hi⟩
theorem conv_src (w : World) (e : TypeId) (s : ByteArray) (h : s.size ≤ maxLen) : Src (Lib.bytesWorld w e s) (some ⟨w.heap.size, 0, none⟩) (grownCap w s.size 0 e) s.data.toList := by
  refine ⟨by rw [str_len]; exact grownCap_ge w s.size 0 e, grownCap_le_maxLen w s.size 0 e h, fun _ => ⟨_, _, rfl, fun j hj => ?_⟩⟩
  rw [str_len] at hj
  rw [Nat.zero_add, Lib.bytesWorld_cell w e s j hj]
  rfl
/-- The string of a list of bytes. -/
def strOf (l : List UInt8) : ByteArray := ⟨l.toArray⟩
theorem strOf_size (l : List UInt8) : (strOf l).size = l.length := by
  show l.toArray.size = _
  simp
theorem strOf_data (l : List UInt8) : (strOf l).data.toList = l := by
  show l.toArray.toList = _
  simp
theorem strOf_back (s : ByteArray) : strOf s.data.toList = s := by
  unfold strOf
  simp
theorem sub_zero {bs : List UInt8} {e : Nat} : sub bs 0 e = bs.take e := by unfold sub; simp
end Go.Proofs.YtpdfompeoceklaaFmt.Core
