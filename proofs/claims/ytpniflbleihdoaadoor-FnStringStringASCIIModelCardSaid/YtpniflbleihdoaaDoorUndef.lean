/-
  Proved: what (*String).String and (*Int).String return (contracts over strconv's); the walk of FnUndefinedStringExactAndUnlikeStrings returns true at every argument.
  Conditions: the library's tables start as the program's text lays them.
-/
import Derived.Test.YtpniflbleihdoaaDoorTok
import Derived.Test.YtpniflbleihdoaaDoorTie
import Derived.Test.YtpniflbleihdoaaDoorCards
import Derived.Lib.LaidPrint
import Derived.Lib.LaidU8
import Derived.PinnedBridge
import Derived.Lay
import Derived.SevenTiedAt
import Derived.IntWalk
import Derived.Shelf.Strconv.Quoted
import Derived.Shelf.Unicode.DecodeSlow
import Derived.Shelf.Unicode.PredsPay
namespace Go.Proofs.YtpniflbleihdoaaDoor.Undef
open Go.ChangeShapes Go.WideShapes Go.ChangeAt Go.RowKit Go.Shelf Go.Lib Tok
set_option linter.unusedVariables false

/-- The tables of strconv.Quote. -/
def QTabs (w : World) : Prop := Lib.PrintTabsAt 5 6 7 8 goPrintTabs w ∧ Lib.Utf8Tabs 3 4 w
theorem QTabs.below {w w' : World} (h : QTabs w) (hb : Below w.heap.size w w') : QTabs w' := ⟨printTabs_below h.1 hb, Utf8Tabs_below h.2 hb⟩

def quoted (s : ByteArray) : ByteArray := strOfNums (Lib.quoteZ goPrintTabs s)
/-- (*String).String. -/
theorem string_any (b : Nat) (s : ByteArray) (w : World) (h : w.cell? ⟨b, 0, none⟩ = some (.string s)) (hl : s.size ≤ 1048576) (hQ : QTabs w) :
    Calls Tryd.prog 11 #[.pointer (some ⟨b, 0, none⟩)] w fun e w' => e = .returned (.string (quoted s)) ∧ Below w.heap.size w w' := by
  have c := Lib.hid (Tryd.strconv_Quote goPrintTabs s w (by omega) hQ.1 hQ.2)
  clear hQ
  go_enter Tryd.func11, Tryd.ntmps11
  go_wp2_with fail
  refine c.out.mono ?_
  rintro e w1 ⟨rfl, hb⟩
  go_wp2_with fail
  go_ret
  exact ⟨rfl, hb⟩
/-- (*Int).String. -/
theorem int_any (b : Nat) (n : Int) (w : World) (h : w.cell? ⟨b, 0, none⟩ = some (.int .i64 n)) (h0 : -9223372036854775808 ≤ n) (h1 : n ≤ 9223372036854775807) (htab : TabIs Tryd.prog w "internal/strconv.uint64pow10" .u64 pow10Tab) :
    Calls Tryd.prog 22 #[.pointer (some ⟨b, 0, none⟩)] w fun e w' => e = .returned (.string ⟨(itoa n).toArray⟩) ∧ Below w.heap.size w w' := by
  have c := Lib.hid (Tryd.strconv_FormatInt_10 n h0 h1 w htab)
  clear htab
  go_enter Tryd.func22, Tryd.ntmps22
  go_wp2_with fail
  refine c.out.mono ?_
  rintro e w1 ⟨rfl, hb⟩
  go_wp2_with fail
  go_ret
  exact ⟨rfl, itoa_world hb⟩
theorem undef_any (v : Value) (w : World) : Calls Tryd.prog 21 #[v] w fun e w' => e = .returned (.string ⟨#[60, 117, 110, 100, 101, 102, 105, 110, 101, 100, 62]⟩) ∧ w = w' := by
  go_enter Tryd.func21, Tryd.ntmps21
  go_wp2_with fail
  go_ret
  exact ⟨rfl, rfl⟩

/-! ### The plain law. -/
def undefText : ByteArray := ⟨#[60, 117, 110, 100, 101, 102, 105, 110, 101, 100, 62]⟩
theorem quoted_ne (s : ByteArray) : quoted s ≠ undefText := by
  intro h
  have := congrArg (fun b => b.data.toList.head?) h
  simp [quoted, strOfNums, quoteZ, undefText] at this
theorem itoa_ne (n : Int) : (⟨(itoa n).toArray⟩ : ByteArray) ≠ undefText := by
  intro h
  have := congrArg (fun b => b.data.toList.head?) h
  simp only [undefText] at this
  unfold itoa at this
  split at this
  · simp at this
  · obtain ⟨c, l, e, h1, h2⟩ := decDigits_head n.toNat
    rw [e] at this
    simp at this
    subst this
    exact absurd h2 (by decide)

theorem listed_ne {x : ByteArray} (h : x ≠ undefText) : (x.toList == [60, 117, 110, 100, 101, 102, 105, 110, 101, 100, 62]) = false := by
  rw [beq_eq_false_iff_ne]
  intro e
  apply h
  rw [ByteArray.toList_eq] at e
  apply ByteArray.ext
  exact Array.toList_inj.1 e
theorem pow_below {w w' : World} (h : TabIs Tryd.prog w "internal/strconv.uint64pow10" .u64 pow10Tab) (hb : Below w.heap.size w w') : TabIs Tryd.prog w' "internal/strconv.uint64pow10" .u64 pow10Tab := TabIs_below (g := 2) (by kernel_rfl) h hb

set_option maxHeartbeats 1000000 in
theorem walk0 (s : ByteArray) (n : Int) (w : World) (hs : s.size ≤ 9223372036854775807) (h0 : -9223372036854775808 ≤ n) (h1 : n ≤ 9223372036854775807) (hQ : QTabs w) (hT : TabIs Tryd.prog w "internal/strconv.uint64pow10" .u64 pow10Tab) :
    Calls Tryd.prog 5 #[.string s, .int .i64 n] w fun e w' => e = .returned (.bool true) ∧ Below w.heap.size w w' := by
  have HQ := Lib.hid hQ
  have HT := Lib.hid hT
  clear hQ hT
  by_cases h : s.size ≤ 1048576
  · have q1 := listed_ne (quoted_ne s)
    have q2 : (itoa n == [60, 117, 110, 100, 101, 102, 105, 110, 101, 100, 62]) = false := by have := listed_ne (itoa_ne n); simpa [ByteArray.toList_eq] using this
    go_enter Tryd.func5, Tryd.ntmps5
    go_wp2_with (first | (go_at_call 20; go_in) | (go_at_call 21; refine (undef_any _ _).mono ?_; rintro e w1 ⟨rfl, rfl⟩))
    refine (string_any _ s _ (by go_simp) h (HQ.out.below (((Below.refl _ _).alloc (Nat.le_refl _) _).alloc (by simp) _))).mono ?_
    rintro e w1 ⟨rfl, hb⟩
    have hb1 : Below w.heap.size w w1 := (((Below.refl _ _).alloc (Nat.le_refl _) _).alloc (by simp) _).trans (hb.mono (by simp; omega))
    have HB := Lib.hid hb1
    clear hb hb1
    go_wp2_with fail
    refine (int_any _ n _ (by go_simp) h0 h1 (pow_below HT.out (HB.out.alloc HB.out.size _))).mono ?_
    rintro e w2 ⟨rfl, hb2⟩
    have hb3 : Below w.heap.size w w2 := (HB.out.alloc HB.out.size _).trans (hb2.mono (by have := HB.out.size; simp; omega))
    have HB3 := Lib.hid hb3
    clear hb2 hb3
    go_wp2_with fail
    go_ret
    exact ⟨rfl, HB3.out⟩
  · go_enter Tryd.func5, Tryd.ntmps5
    go_wp2_with (first | (go_at_call 20; go_in))
    go_ret
    exact ⟨rfl, Below.refl _ _⟩

/-! ### The tables, off a row's condition. -/
theorem qtabs_of {w : World} (a : VarReads Tryd.prog w "unicode/utf8.acceptRanges" Rows.laid_unicode_utf8_acceptRanges) (f : VarReads Tryd.prog w "unicode/utf8.first" Rows.laid_unicode_utf8_first)
    (p16 : VarReads Tryd.prog w "strconv.isPrint16" Rows.laid_strconv_isPrint16) (n16 : VarReads Tryd.prog w "strconv.isNotPrint16" Rows.laid_strconv_isNotPrint16)
    (p32 : VarReads Tryd.prog w "strconv.isPrint32" Rows.laid_strconv_isPrint32) (n32 : VarReads Tryd.prog w "strconv.isNotPrint32" Rows.laid_strconv_isNotPrint32) : QTabs w := by
  have e0 : Rows.laid_unicode_utf8_first = firstData := Pinned.utf8First_eq
  have e1 : Rows.laid_unicode_utf8_acceptRanges = acceptData := by kernel_rfl
  have e2 : Rows.laid_strconv_isPrint16 = sliceData .u16 goPrintTabs.p16 := Pinned.isPrint16_eq
  have e3 : Rows.laid_strconv_isNotPrint16 = sliceData .u16 goPrintTabs.n16 := Pinned.isNotPrint16_eq
  have e4 : Rows.laid_strconv_isPrint32 = sliceData .u32 goPrintTabs.p32 := Pinned.isPrint32_eq
  have e5 : Rows.laid_strconv_isNotPrint32 = sliceData .u16 goPrintTabs.n32 := Pinned.isNotPrint32_eq
  rw [e0] at f
  rw [e1] at a
  rw [e2] at p16
  rw [e3] at n16
  rw [e4] at p32
  rw [e5] at n32
  exact ⟨printTabs_of_reads { Tryd.lays177 with } ⟨by kernel_rfl, by kernel_rfl, by kernel_rfl, by kernel_rfl, by kernel_rfl, by kernel_rfl, by kernel_rfl, by kernel_rfl, by kernel_rfl, by kernel_rfl⟩ p16 n16 p32 n32,
    utf8Tabs_of_reads { Tryd.lays177 with } ⟨by kernel_rfl, by kernel_rfl, by kernel_rfl, by kernel_rfl, by kernel_rfl, by kernel_rfl, by kernel_rfl⟩ f a⟩

theorem walk (s : ByteArray) (n : Int) (ws : s.size ≤ maxLen) (wn : (Lit.int .i64 n).wf = true) (w : World) (hL : laidMet Tryd.prog Rows.fnUndefinedStringExactAndUnlikeStringsRow.laid w) :
    Calls Tryd.prog 5 #[.string s, .int .i64 n] w fun e w' => e = .returned (.bool true) ∧ Below w.heap.size w w' := by
  have hy : -9223372036854775808 ≤ n ∧ n ≤ 9223372036854775807 := by simpa [Lit.wf, IntKind.min, IntKind.max, IntKind.signed, IntKind.bits] using wn
  refine walk0 s n w (by unfold maxLen at ws; omega) hy.1 hy.2 (qtabs_of ?_ ?_ ?_ ?_ ?_ ?_) (pow_of ?_)
  · exact Lib.laidMet.reads hL (.tail _ (.tail _ (.tail _ (.head _))))
  · exact Lib.laidMet.reads hL (.tail _ (.tail _ (.tail _ (.tail _ (.tail _ (.tail _ (.tail _ (.tail _ (.tail _ (.head _))))))))))
  · exact Lib.laidMet.reads hL (.tail _ (.tail _ (.tail _ (.tail _ (.tail _ (.tail _ (.tail _ (.head _))))))))
  · exact Lib.laidMet.reads hL (.tail _ (.tail _ (.tail _ (.tail _ (.tail _ (.head _))))))
  · exact Lib.laidMet.reads hL (.tail _ (.tail _ (.tail _ (.tail _ (.tail _ (.tail _ (.tail _ (.tail _ (.head _)))))))))
  · exact Lib.laidMet.reads hL (.tail _ (.tail _ (.tail _ (.tail _ (.tail _ (.tail _ (.head _)))))))
  · exact Lib.laidMet.reads hL (.tail _ (.tail _ (.head _)))
end Go.Proofs.YtpniflbleihdoaaDoor.Undef
