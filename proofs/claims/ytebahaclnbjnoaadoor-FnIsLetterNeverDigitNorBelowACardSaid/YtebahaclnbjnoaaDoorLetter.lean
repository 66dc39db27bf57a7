/-
  Proved: for every int32 r the law FnIsLetterNeverDigitNorBelowA returns true (a rune that isLetter accepts is no digit of isDigit, is at least 'A' and at most 0x10FFFF), and the argument reads as before; as the tied card.
  Conditions: none beyond the given card (unicode.properties, unicode.Letter and unicode.Digit start as the program's text lays them).
-/
import Derived.Test.YtebahaclnbjnoaaDoorRows
import Derived.Test.YtebahaclnbjnoaaDoorTie
import Derived.Test.YtebahaclnbjnoaaDoorCards
import Derived.Test.YtebahaclnbjnoaaDoorShelf
import Derived.Test.YtebahaclnbjnoaaDoorPlainLet
import Derived.WalkKit
import Derived.ProofKit
import Derived.Handy
import Derived.PinnedBridge
import Derived.Lay
import Derived.SevenTiedAt
namespace Go.Proofs.YtebahaclnbjnoaaDoor.Letter
open Go.ChangeShapes Go.WideShapes Go.ChangeAt Go.RowKit Go.Shelf Go.Lib Plain
set_option linter.unusedVariables false

/-- parser.isLetter, as a plain function. -/
def isLet (r : Int) : Bool := decide (97 ≤ r ∧ r ≤ 122) || decide (65 ≤ r ∧ r ≤ 90) || decide (r = 95) || (decide (128 ≤ r) && isLetterU r)
/-- parser.isDigit, as a plain function. -/
def isDig (r : Int) : Bool := decide (48 ≤ r ∧ r ≤ 57) || (decide (128 ≤ r) && isDigitU r)

theorem isLet_big {r : Int} (h : 128 ≤ r) : isLet r = isLetterU r := by
  unfold isLet
  rw [decide_eq_false (by omega), decide_eq_false (by omega), decide_eq_false (by omega), decide_eq_true h]
  simp
theorem isDig_big {r : Int} (h : 128 ≤ r) : isDig r = isDigitU r := by
  unfold isDig
  rw [decide_eq_false (by omega), decide_eq_true h]
  simp
theorem isLet_yes {r : Int} (h : (97 ≤ r ∧ r ≤ 122) ∨ (65 ≤ r ∧ r ≤ 90) ∨ r = 95) : isLet r = true := by
  unfold isLet
  rcases h with h | h | h <;> simp [h]
theorem isLet_no {r : Int} (h1 : r < 128) (h : ¬ ((97 ≤ r ∧ r ≤ 122) ∨ (65 ≤ r ∧ r ≤ 90) ∨ r = 95)) : isLet r = false := by
  unfold isLet
  rw [decide_eq_false (by omega), decide_eq_false (by omega), decide_eq_false (by omega), decide_eq_false (by omega)]
  simp
theorem isDig_yes {r : Int} (h : 48 ≤ r ∧ r ≤ 57) : isDig r = true := by
  unfold isDig
  simp [h]
theorem isDig_no {r : Int} (h1 : r < 128) (h : ¬ (48 ≤ r ∧ r ≤ 57)) : isDig r = false := by
  unfold isDig
  rw [decide_eq_false h, decide_eq_false (by omega)]
  simp

/-- parser.isLetter (function 14). -/
theorem letter_any (r : Int) (w : World) (hlo : -2147483648 ≤ r) (hhi : r ≤ 2147483647) (htab : Lib.TabIs Tryd.prog w "unicode.properties" .u8 Lib.propertiesTab) (hV : RVar 2 letterT w) :
    Calls Tryd.prog 14 #[.int .i32 r] w fun e w' => e = .returned (.bool (isLet r)) ∧ Below w.heap.size w w' := by
  by_cases hb : 128 ≤ r
  · rw [isLet_big hb]
    have c := Tryd.unicode_IsLetter_all r w hlo hhi htab hV
    have C := Lib.hid c
    clear c
    have n1 : ((r : Int) == 95) = false := by simp; omega
    have n2 : decide (r ≤ 122) = false := decide_eq_false (by omega)
    have n3 : decide (r ≤ 90) = false := decide_eq_false (by omega)
    go_enter Tryd.func14, Tryd.ntmps14
    go_wp2_with (go_at_call 17; refine C.out.mono ?_; rintro e w1 ⟨rfl, hb1⟩)
    go_ret
    exact ⟨rfl, hb1⟩
  · by_cases h : (97 ≤ r ∧ r ≤ 122) ∨ (65 ≤ r ∧ r ≤ 90) ∨ r = 95
    · rw [isLet_yes h]
      rcases h with h | h | h
      · go_enter Tryd.func14, Tryd.ntmps14
        go_wp2
        go_ret
        exact ⟨rfl, Below.refl _ _⟩
      · go_enter Tryd.func14, Tryd.ntmps14
        go_wp2
        go_ret
        exact ⟨rfl, Below.refl _ _⟩
      · subst h
        go_enter Tryd.func14, Tryd.ntmps14
        go_wp2
        go_ret
        exact ⟨rfl, Below.refl _ _⟩
    · rw [isLet_no (by omega) h]
      have n1 : ((r : Int) == 95) = false := by simp; omega
      have k : r < 65 ∨ (90 < r ∧ r < 97) ∨ 122 < r := by omega
      rcases k with k | k | k
      · go_enter Tryd.func14, Tryd.ntmps14
        go_wp2
        go_ret
        exact ⟨rfl, Below.refl _ _⟩
      · have n3 : decide (r ≤ 90) = false := decide_eq_false (by omega)
        go_enter Tryd.func14, Tryd.ntmps14
        go_wp2
        go_ret
        exact ⟨rfl, Below.refl _ _⟩
      · have n2 : decide (r ≤ 122) = false := decide_eq_false (by omega)
        have n3 : decide (r ≤ 90) = false := decide_eq_false (by omega)
        go_enter Tryd.func14, Tryd.ntmps14
        go_wp2
        go_ret
        exact ⟨rfl, Below.refl _ _⟩

/-- parser.isDigit (function 15). -/
theorem digit_any (r : Int) (w : World) (hlo : -2147483648 ≤ r) (hhi : r ≤ 2147483647) (hV : RVar 3 digitT w) :
    Calls Tryd.prog 15 #[.int .i32 r] w fun e w' => e = .returned (.bool (isDig r)) ∧ Below w.heap.size w w' := by
  by_cases hb : 128 ≤ r
  · rw [isDig_big hb]
    have c := Tryd.unicode_IsDigit_all r w hlo hhi hV
    have C := Lib.hid c
    clear c
    have n2 : decide (r ≤ 57) = false := decide_eq_false (by omega)
    go_enter Tryd.func15, Tryd.ntmps15
    go_wp2_with (go_at_call 18; refine C.out.mono ?_; rintro e w1 ⟨rfl, hb1⟩)
    go_ret
    exact ⟨rfl, hb1⟩
  · by_cases h : 48 ≤ r ∧ r ≤ 57
    · rw [isDig_yes h]
      go_enter Tryd.func15, Tryd.ntmps15
      go_wp2
      go_ret
      exact ⟨rfl, Below.refl _ _⟩
    · rw [isDig_no (by omega) h]
      have k : r < 48 ∨ 57 < r := by omega
      rcases k with k | k
      · go_enter Tryd.func15, Tryd.ntmps15
        go_wp2
        go_ret
        exact ⟨rfl, Below.refl _ _⟩
      · have n2 : decide (r ≤ 57) = false := decide_eq_false (by omega)
        go_enter Tryd.func15, Tryd.ntmps15
        go_wp2
        go_ret
        exact ⟨rfl, Below.refl _ _⟩

/-- The plain law. -/
theorem plain {r : Int} (h0 : -2147483648 ≤ r) (hr : r ≤ 2147483647) (h : isLet r = true) : isDig r = false ∧ 65 ≤ r ∧ r ≤ 1114111 := by
  by_cases hb : 128 ≤ r
  · rw [isLet_big hb] at h
    rw [isDig_big hb]
    exact ⟨not_digit_of_letter h0 hr h, letterU_range h0 hr h⟩
  · have k : (97 ≤ r ∧ r ≤ 122) ∨ (65 ≤ r ∧ r ≤ 90) ∨ r = 95 := by
      rcases Classical.em ((97 ≤ r ∧ r ≤ 122) ∨ (65 ≤ r ∧ r ≤ 90) ∨ r = 95) with k | k
      · exact k
      · rw [isLet_no (by omega) k] at h; cases h
    exact ⟨isDig_no (by omega) (by omega), by omega, by omega⟩

/-- The law's walk. -/
theorem walk (r : Int) (w : World) (hlo : -2147483648 ≤ r) (hhi : r ≤ 2147483647) (htab : Lib.TabIs Tryd.prog w "unicode.properties" .u8 Lib.propertiesTab) (hV : RVar 2 letterT w) (hD : RVar 3 digitT w) :
    Calls Tryd.prog 4 #[.int .i32 r] w fun e w' => e = .returned (.bool true) ∧ Below w.heap.size w w' := by
  have c := Lib.hid (letter_any r w hlo hhi htab hV)
  clear htab hV
  have p := Lib.hid (@plain r hlo hhi)
  go_enter Tryd.func4, Tryd.ntmps4
  go_wp2_with (first | (go_at_call 7; go_in))
  refine c.out.mono ?_
  rintro e w1 ⟨rfl, hb1⟩
  have d := Lib.hid (digit_any r w1 hlo hhi (RVar_below hD hb1))
  have HD := Lib.hid hD
  clear hD
  cases hl : isLet r with
  | false =>
    go_wp2_with fail
    go_ret
    exact ⟨rfl, hb1⟩
  | true =>
    obtain ⟨q1, q2, q3⟩ := p.out hl
    rw [q1] at d
    have HB := Lib.hid hb1
    clear hb1 hl q1
    go_wp2_with (first | (go_at_call 8; go_in))
    refine d.out.mono ?_
    rintro e w2 ⟨rfl, hb2⟩
    go_wp2_with fail
    go_ret
    exact ⟨rfl, HB.out.trans (hb2.mono HB.out.size)⟩

/-! ### The tables, off the row's condition. -/
theorem xL : RExtra Tryd.prog Tryd.lays200_ren := ⟨by kernel_rfl, by kernel_rfl, by kernel_rfl, by kernel_rfl, by kernel_rfl, by kernel_rfl, by kernel_rfl, by kernel_rfl⟩
theorem xD : RExtra Tryd.prog Tryd.lays198_ren := ⟨by kernel_rfl, by kernel_rfl, by kernel_rfl, by kernel_rfl, by kernel_rfl, by kernel_rfl, by kernel_rfl, by kernel_rfl⟩
theorem digit_data : Rows.laid_unicode_Digit = rtabData digitT := Pinned.digit_eq
theorem letter_data : Rows.laid_unicode_Letter = rtabData letterT := Pinned.letter_eq
theorem props_eq : (Rows.laid_unicode_properties : DataW Unit) = Lib.tabData .u8 Lib.propertiesTab := by kernel_rfl
theorem walkL (r : Int) (wr : (Lit.int .i32 r).wf = true) (w : World) (hL : laidMet Tryd.prog Rows.fnIsLetterNeverDigitNorBelowARow.laid w) :
    Calls Tryd.prog 4 #[.int .i32 r] w fun e w' => e = .returned (.bool true) ∧ Below w.heap.size w w' := by
  have hx : -2147483648 ≤ r ∧ r ≤ 2147483647 := by simpa [Lit.wf, IntKind.min, IntKind.max, IntKind.signed, IntKind.bits] using wr
  have hD : RVar 3 digitT w := rvar_of_reads { Tryd.lays198 with } xD (by kernel_rfl) (by kernel_rfl) (digit_data ▸ Lib.laidMet.reads hL (.tail _ (.head _)))
  have hV : RVar 2 letterT w := rvar_of_reads { Tryd.lays200 with } xL (by kernel_rfl) (by kernel_rfl) (letter_data ▸ Lib.laidMet.reads hL (.tail _ (.tail _ (.head _))))
  have hP : Lib.TabIs Tryd.prog w "unicode.properties" .u8 Lib.propertiesTab := by
    have h : laidMet Tryd.prog (("unicode.properties", Rows.laid_unicode_properties) :: [("unicode.Digit", Rows.laid_unicode_Digit), ("unicode.Letter", Rows.laid_unicode_Letter)]) w := hL
    rw [props_eq] at h
    exact Lib.tabIs_of_head (g := 1) (by kernel_rfl) (by kernel_rfl) Tryd.underlying33 Tryd.underlying5 (by kernel_rfl) (by kernel_rfl) h
  exact walk r w hx.1 hx.2 hP hV hD
end Go.Proofs.YtebahaclnbjnoaaDoor.Letter
