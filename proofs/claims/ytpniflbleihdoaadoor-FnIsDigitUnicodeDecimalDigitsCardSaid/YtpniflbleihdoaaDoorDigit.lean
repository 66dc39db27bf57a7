/-
  Proved: the walk of FnIsDigitUnicodeDecimalDigits: it returns true at every argument.
  Conditions: unicode.Digit starts as the program's text lays it.
-/
import Derived.Test.YtpniflbleihdoaaDoorRows
import Derived.Test.YtpniflbleihdoaaDoorTie
import Derived.Test.YtpniflbleihdoaaDoorCards
import Derived.Test.YtpniflbleihdoaaDoorShelf
import Derived.Test.YtpniflbleihdoaaDoorPlainLet
import Derived.WalkKit
import Derived.ProofKit
import Derived.Handy
import Derived.PinnedBridge
import Derived.Lay
import Derived.SevenTiedAt
namespace Go.Proofs.YtpniflbleihdoaaDoor.Digit
open Go.ChangeShapes Go.WideShapes Go.ChangeAt Go.RowKit Go.Shelf Go.Lib Plain
set_option linter.unusedVariables false

def isDig (r : Int) : Bool := decide (48 ≤ r ∧ r ≤ 57) || (decide (128 ≤ r) && isDigitU r)
theorem isDig_big {r : Int} (h : 128 ≤ r) : isDig r = isDigitU r := by
  unfold isDig
  rw [decide_eq_false (by omega), decide_eq_true h]
  simp
theorem isDig_yes {r : Int} (h : 48 ≤ r ∧ r ≤ 57) : isDig r = true := by
  unfold isDig
  simp [h]
theorem isDig_no {r : Int} (h1 : r < 128) (h : ¬ (48 ≤ r ∧ r ≤ 57)) : isDig r = false := by
  unfold isDig
  rw [decide_eq_false h, decide_eq_false (by omega)]
  simp

/-- parser.isDigit (function 45). -/
theorem digit_any (r : Int) (w : World) (hlo : -2147483648 ≤ r) (hhi : r ≤ 2147483647) (hV : RVar 1 digitT w) :
    Calls Tryd.prog 45 #[.int .i32 r] w fun e w' => e = .returned (.bool (isDig r)) ∧ Below w.heap.size w w' := by
  by_cases hb : 128 ≤ r
  · rw [isDig_big hb]
    have c := Tryd.unicode_IsDigit_all r w hlo hhi hV
    have C := Lib.hid c
    clear c
    have n2 : decide (r ≤ 57) = false := decide_eq_false (by omega)
    have n0 : decide (48 ≤ r) = true := decide_eq_true (by omega)
    go_enter Tryd.func45, Tryd.ntmps45
    go_wp2_with (go_at_call 52; refine C.out.mono ?_; rintro e w1 ⟨rfl, hb1⟩)
    go_ret
    exact ⟨rfl, hb1⟩
  · by_cases h : 48 ≤ r ∧ r ≤ 57
    · rw [isDig_yes h]
      go_enter Tryd.func45, Tryd.ntmps45
      go_wp2
      go_ret
      exact ⟨rfl, Below.refl _ _⟩
    · rw [isDig_no (by omega) h]
      have k : r < 48 ∨ 57 < r := by omega
      rcases k with k | k
      · go_enter Tryd.func45, Tryd.ntmps45
        go_wp2
        go_ret
        exact ⟨rfl, Below.refl _ _⟩
      · have n2 : decide (r ≤ 57) = false := decide_eq_false (by omega)
        have n0 : decide (48 ≤ r) = true := decide_eq_true (by omega)
        go_enter Tryd.func45, Tryd.ntmps45
        go_wp2
        go_ret
        exact ⟨rfl, Below.refl _ _⟩

/-- the law's own door (function 29). -/
theorem door_any (r : Int) (b : Bool) (w : World) (hlo : -2147483648 ≤ r) (hhi : r ≤ 2147483647) (hV : RVar 1 digitT w) (hb : isDig r = b) :
    Calls Tryd.prog 29 #[.int .i32 r] w fun e w' => e = .returned (.bool b) ∧ Below w.heap.size w w' := by
  subst hb
  have C := Lib.hid (digit_any r w hlo hhi hV)
  clear hV
  go_enter Tryd.func29, Tryd.ntmps29
  go_wp2_with (go_at_call 45; refine C.out.mono ?_; rintro e w1 ⟨rfl, hb1⟩)
  go_ret
  exact ⟨rfl, hb1⟩

/-! ### The plain law. -/
theorem yes_all : ∀ k ∈ List.range 10, isDig (48 + (k : Int)) = true ∧ isDig (1632 + (k : Int)) = true ∧ isDig (1776 + (k : Int)) = true ∧ isDig (2406 + (k : Int)) = true ∧ isDig (65296 + (k : Int)) = true ∧ isDig (8544 + (k : Int)) = false := by
  decide +kernel
theorem no_all : isDig 178 = false ∧ isDig 65295 = false ∧ isDig 65306 = false := by decide +kernel
theorem out_no {r : Int} (h0 : -2147483648 ≤ r) (hr : r ≤ 2147483647) (h : r < 0 ∨ 1114111 < r) : isDig r = false := by
  by_cases hb : 128 ≤ r
  · rw [isDig_big hb]
    cases hd : isDigitU r with
    | false => rfl
    | true => have := digitU_range h0 hr hd; omega
  · exact isDig_no (by omega) (by omega)

/-- The law's walk. -/
theorem walk0 (k c : Int) (w : World) (hk0 : -9223372036854775808 ≤ k) (hk1 : k ≤ 9223372036854775807) (hlo : -2147483648 ≤ c) (hhi : c ≤ 2147483647) (hV : RVar 1 digitT w) :
    Calls Tryd.prog 7 #[.int .i64 k, .int .i32 c] w fun e w' => e = .returned (.bool true) ∧ Below w.heap.size w w' := by
  by_cases hk : k < 0
  · have n1 : decide (k < 0) = true := decide_eq_true hk
    go_enter Tryd.func7, Tryd.ntmps7
    go_wp2_with fail
    go_ret
    exact ⟨rfl, Below.refl _ _⟩
  · by_cases hk2 : 9 < k
    · have n1 : decide (k < 0) = false := decide_eq_false hk
      have n2 : decide (9 < k) = true := decide_eq_true hk2
      go_enter Tryd.func7, Tryd.ntmps7
      go_wp2_with fail
      go_ret
      exact ⟨rfl, Below.refl _ _⟩
    · have n1 : decide (k < 0) = false := decide_eq_false hk
      have n2 : decide (9 < k) = false := decide_eq_false hk2
      have hm : k.toNat ∈ List.range 10 := by rw [List.mem_range]; omega
      have hy := yes_all k.toNat hm
      rw [Int.toNat_of_nonneg (by omega)] at hy
      obtain ⟨y0, y1, y2, y3, y4, y5⟩ := hy
      obtain ⟨z0, z1, z2⟩ := no_all
      have hk3 : 0 ≤ k := by omega
      have hk4 : k ≤ 9 := by omega
      have HV := Lib.hid hV
      have D : RowKit.Hid (∀ r b w1, -2147483648 ≤ r → r ≤ 2147483647 → isDig r = b → Below w.heap.size w w1 → Calls Tryd.prog 29 #[.int .i32 r] w1 fun e w' => e = .returned (.bool b) ∧ Below w.heap.size w w') :=
        Lib.hid (fun r b w1 h1 h2 h3 h4 => (door_any r b w1 h1 h2 (RVar_below hV h4) h3).mono fun e w' ⟨he, hb⟩ => ⟨he, h4.trans (hb.mono h4.size)⟩)
      clear hV hm
      have B0 := Lib.hid (Below.refl w.heap.size w)
      go_enter Tryd.func7, Tryd.ntmps7
      go_wp2_with fail
      refine (D.out (48 + k) true _ (by omega) (by omega) y0 B0.out).mono ?_
      rintro e w1 ⟨rfl, hb⟩
      have B1 := Lib.hid hb
      clear hb
      go_wp2_with fail
      refine (D.out (1632 + k) true _ (by omega) (by omega) y1 B1.out).mono ?_
      rintro e w2 ⟨rfl, hb⟩
      have B2 := Lib.hid hb
      clear hb
      go_wp2_with fail
      refine (D.out (1776 + k) true _ (by omega) (by omega) y2 B2.out).mono ?_
      rintro e w3 ⟨rfl, hb⟩
      have B3 := Lib.hid hb
      clear hb
      go_wp2_with fail
      refine (D.out (2406 + k) true _ (by omega) (by omega) y3 B3.out).mono ?_
      rintro e w4 ⟨rfl, hb⟩
      have B4 := Lib.hid hb
      clear hb
      go_wp2_with fail
      refine (D.out (65296 + k) true _ (by omega) (by omega) y4 B4.out).mono ?_
      rintro e w5 ⟨rfl, hb⟩
      have B5 := Lib.hid hb
      clear hb
      go_wp2_with fail
      refine (D.out (8544 + k) false _ (by omega) (by omega) y5 B5.out).mono ?_
      rintro e w6 ⟨rfl, hb⟩
      have B6 := Lib.hid hb
      clear hb
      go_wp2_with fail
      refine (D.out (178) false _ (by omega) (by omega) z0 B6.out).mono ?_
      rintro e w7 ⟨rfl, hb⟩
      have B7 := Lib.hid hb
      clear hb
      go_wp2_with fail
      refine (D.out (65295) false _ (by omega) (by omega) z1 B7.out).mono ?_
      rintro e w8 ⟨rfl, hb⟩
      have B8 := Lib.hid hb
      clear hb
      go_wp2_with fail
      refine (D.out (65306) false _ (by omega) (by omega) z2 B8.out).mono ?_
      rintro e w9 ⟨rfl, hb⟩
      have B9 := Lib.hid hb
      clear hb
      by_cases hc : c < 0
      · have n3 : decide (c < 0) = true := decide_eq_true hc
        have O := Lib.hid (out_no hlo hhi (.inl hc))
        go_wp2_with fail
        refine (D.out c false _ hlo hhi O.out B9.out).mono ?_
        rintro e w10 ⟨rfl, hb⟩
        have B10 := Lib.hid hb
        clear hb
        go_wp2_with fail
        go_ret
        exact ⟨rfl, B10.out⟩
      · by_cases hc2 : 1114111 < c
        · have n3 : decide (c < 0) = false := decide_eq_false hc
          have n4 : decide (1114111 < c) = true := decide_eq_true hc2
          have O := Lib.hid (out_no hlo hhi (.inr hc2))
          go_wp2_with fail
          refine (D.out c false _ hlo hhi O.out B9.out).mono ?_
          rintro e w10 ⟨rfl, hb⟩
          have B10 := Lib.hid hb
          clear hb
          go_wp2_with fail
          go_ret
          exact ⟨rfl, B10.out⟩
        · have n3 : decide (c < 0) = false := decide_eq_false hc
          have n4 : decide (1114111 < c) = false := decide_eq_false hc2
          go_wp2_with fail
          go_ret
          exact ⟨rfl, B9.out⟩

theorem walk (k c : Int) (wk : (Lit.int .i64 k).wf = true) (wr : (Lit.int .i32 c).wf = true) (w : World) (hL : laidMet Tryd.prog Rows.fnIsDigitUnicodeDecimalDigitsRow.laid w) :
    Calls Tryd.prog 7 #[.int .i64 k, .int .i32 c] w fun e w' => e = .returned (.bool true) ∧ Below w.heap.size w w' := by
  have hx : -2147483648 ≤ c ∧ c ≤ 2147483647 := by simpa [Lit.wf, IntKind.min, IntKind.max, IntKind.signed, IntKind.bits] using wr
  have hy : -9223372036854775808 ≤ k ∧ k ≤ 9223372036854775807 := by simpa [Lit.wf, IntKind.min, IntKind.max, IntKind.signed, IntKind.bits] using wk
  have xD : RExtra Tryd.prog Tryd.lays198_ren := ⟨by kernel_rfl, by kernel_rfl, by kernel_rfl, by kernel_rfl, by kernel_rfl, by kernel_rfl, by kernel_rfl, by kernel_rfl⟩
  have e : Rows.laid_unicode_Digit = rtabData digitT := Pinned.digit_eq
  have hD : RVar 1 digitT w := rvar_of_reads { Tryd.lays198 with } xD (by kernel_rfl) (by kernel_rfl) (e ▸ Lib.laidMet.reads hL (.head _))
  exact walk0 k c w hy.1 hy.2 hx.1 hx.2 hD
end Go.Proofs.YtpniflbleihdoaaDoor.Digit
