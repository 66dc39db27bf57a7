/-
  Proved: isLetter and isDigit at ASCII characters; (*Scanner).scanIdentifier over a run of ASCII letters and digits that an ASCII byte ends.
  Conditions: the library's UTF-8 tables hold what the row lists.
-/
import Derived.Test.YtjikoccbgekfmaaFmtLit
import Derived.Deep.LoopGhost
import Derived.Deep.QuietTactic
import Derived.BigQuiet
namespace Go.Proofs.YtjikoccbgekfmaaFmt.Core
open Go.ChangeShapes Go.WideShapes Go.ChangeAt Go.RowKit
set_option linter.unusedVariables false

def isL (c : Nat) : Bool := decide ((97 ≤ c ∧ c ≤ 122) ∨ (65 ≤ c ∧ c ≤ 90) ∨ c = 95)
def isD (c : Nat) : Bool := decide (48 ≤ c ∧ c ≤ 57)
def isI (c : Nat) : Bool := isL c || isD c
theorem letter_yes (c : Nat) (w : World) (h : isL c = true) : Calls Tryf.prog 24 #[.int .i32 c] w fun e w' => e = .returned (.bool true) ∧ w = w' := by
  have h' : (97 ≤ c ∧ c ≤ 122) ∨ (65 ≤ c ∧ c ≤ 90) ∨ c = 95 := by simpa [isL] using h
  clear h
  rcases h' with h | h | h
  · have d1 : decide ((97 : Int) ≤ (c : Int)) = true := decide_eq_true (by omega)
    have d2 : decide ((c : Int) ≤ 122) = true := decide_eq_true (by omega)
    go_enter Tryf.func24, Tryf.ntmps24
    go_wp2_with fail
    go_ret
    exact ⟨rfl, rfl⟩
  · have d1 : decide ((97 : Int) ≤ (c : Int)) = false := decide_eq_false (by omega)
    have d2 : decide ((65 : Int) ≤ (c : Int)) = true := decide_eq_true (by omega)
    have d3 : decide ((c : Int) ≤ 90) = true := decide_eq_true (by omega)
    go_enter Tryf.func24, Tryf.ntmps24
    go_wp2_with fail
    go_ret
    exact ⟨rfl, rfl⟩
  · subst h
    go_enter Tryf.func24, Tryf.ntmps24
    go_wp2_with fail
    go_ret
    exact ⟨rfl, rfl⟩
theorem letter_no (c : Nat) (w : World) (hc : c < 128) (h : isL c = false) : Calls Tryf.prog 24 #[.int .i32 c] w fun e w' => e = .returned (.bool false) ∧ w = w' := by
  have h' : ¬ ((97 ≤ c ∧ c ≤ 122) ∨ (65 ≤ c ∧ c ≤ 90) ∨ c = 95) := by simpa [isL] using h
  clear h
  have d9 : ((c : Int) == 95) = false := by simp; omega
  have d8 : decide ((128 : Int) ≤ (c : Int)) = false := decide_eq_false (by omega)
  by_cases h1 : c < 65
  · have d1 : decide ((97 : Int) ≤ (c : Int)) = false := decide_eq_false (by omega)
    have d2 : decide ((65 : Int) ≤ (c : Int)) = false := decide_eq_false (by omega)
    go_enter Tryf.func24, Tryf.ntmps24
    go_wp2_with fail
    go_ret
    exact ⟨rfl, rfl⟩
  · have d2 : decide ((65 : Int) ≤ (c : Int)) = true := decide_eq_true (by omega)
    have d3 : decide ((c : Int) ≤ 90) = false := decide_eq_false (by omega)
    by_cases h2 : c < 97
    · have d1 : decide ((97 : Int) ≤ (c : Int)) = false := decide_eq_false (by omega)
      go_enter Tryf.func24, Tryf.ntmps24
      go_wp2_with fail
      go_ret
      exact ⟨rfl, rfl⟩
    · have d1 : decide ((97 : Int) ≤ (c : Int)) = true := decide_eq_true (by omega)
      have d4 : decide ((c : Int) ≤ 122) = false := decide_eq_false (by omega)
      go_enter Tryf.func24, Tryf.ntmps24
      go_wp2_with fail
      go_ret
      exact ⟨rfl, rfl⟩
theorem digit_yes (c : Nat) (w : World) (h : isD c = true) : Calls Tryf.prog 25 #[.int .i32 c] w fun e w' => e = .returned (.bool true) ∧ w = w' := by
  have h' : 48 ≤ c ∧ c ≤ 57 := by simpa [isD] using h
  clear h
  have d1 : decide ((48 : Int) ≤ (c : Int)) = true := decide_eq_true (by omega)
  have d2 : decide ((c : Int) ≤ 57) = true := decide_eq_true (by omega)
  go_enter Tryf.func25, Tryf.ntmps25
  go_wp2_with fail
  go_ret
  exact ⟨rfl, rfl⟩
theorem digit_no (c : Nat) (w : World) (hc : c < 128) (h : isD c = false) : Calls Tryf.prog 25 #[.int .i32 c] w fun e w' => e = .returned (.bool false) ∧ w = w' := by
  have h' : ¬ (48 ≤ c ∧ c ≤ 57) := by simpa [isD] using h
  clear h
  have d8 : decide ((128 : Int) ≤ (c : Int)) = false := decide_eq_false (by omega)
  by_cases h1 : c < 48
  · have d1 : decide ((48 : Int) ≤ (c : Int)) = false := decide_eq_false (by omega)
    go_enter Tryf.func25, Tryf.ntmps25
    go_wp2_with fail
    go_ret
    exact ⟨rfl, rfl⟩
  · have d1 : decide ((48 : Int) ≤ (c : Int)) = true := decide_eq_true (by omega)
    have d2 : decide ((c : Int) ≤ 57) = false := decide_eq_false (by omega)
    go_enter Tryf.func25, Tryf.ntmps25
    go_wp2_with fail
    go_ret
    exact ⟨rfl, rfl⟩
theorem isI_clean {c : Nat} (h : isI c = true) : 0 < c ∧ c < 128 := by
  have h' : ((97 ≤ c ∧ c ≤ 122) ∨ (65 ≤ c ∧ c ≤ 90) ∨ c = 95) ∨ (48 ≤ c ∧ c ≤ 57) := by simpa [isI, isL, isD] using h
  omega

set_option maxHeartbeats 2000000 in
/-- (*Scanner).scanIdentifier. -/
theorem ident_any {w0 : Base} {w : World} {S : Nat} {bs : List UInt8} {semi : Bool} {mode : Int} {p k : Nat} {E : Int} (h : Live w0 w S bs semi mode p (E + nxErr bs p)) (h0 : 0 ≤ E) (h1 : E ≤ 1000000) (hpk : p < k) (hk : k < bs.length)
    (hall : ∀ j, p ≤ j → j < k → isI (bt bs j) = true) (hs1 : bt bs k < 128) (hs2 : isI (bt bs k) = false) :
    Calls Tryf.prog 20 #[.pointer (some ⟨S, 0, none⟩)] w fun e w' => e = .returned (.string ⟨(sub bs p k).toArray⟩) ∧ Live w0 w' S bs semi mode k (E + nxErr bs k) := by
  have H := Lib.hid h
  have HA := Lib.hid hall
  have HS := Lib.hid hs2
  have c3 := h.off
  clear h hall hs2
  go_enter Tryf.func20, Tryf.ntmps20
  go_wp2_with fail
  clear c3
  go_loopg [] (k - p) (fun g wr => ∃ q : Nat, g = k - q ∧ Hid (Live w0 wr S bs semi mode q (E + nxErr bs q)) ∧ p ≤ q ∧ q ≤ k)
  case atStart => exact ⟨p, rfl, H, by omega, by omega⟩
  case round =>
    obtain ⟨q, rfl, HL, e0, e1⟩ := hrel
    have hlen := HL.out.len
    have c2 := HL.out.ch
    by_cases hq : q < k
    · have hi := HA.out q e0 hq
      have hcl := isI_clean hi
      have hx := nx_ascii (bs := bs) (p := q) (by omega) hcl.2
      have hz := nxErr_clean hcl.1 hcl.2
      have hne := nxErr_le (bs := bs) (p := q + 1)
      have C := Lib.hid (live_next HL.out (by omega) (by omega))
      rw [hx.2, hz, Int.add_zero] at C
      rw [hx.1] at c2
      clear hx hz
      by_cases hl : isL (bt bs q) = true
      · generalize bt bs q = c at *
        clear hi hcl
        go_wp2_with (first | (go_at_call 24; refine (letter_yes _ _ hl).mono ?_; rintro e w1 ⟨rfl, rfl⟩))
        refine C.out.mono ?_
        rintro e w1 ⟨rfl, hL1, _⟩
        have HL1 := Lib.hid hL1
        clear hL1 C
        go_wp2_with fail
        go_roundg (k - (q + 1))
        case measure => omega
        case rel => exact ⟨q + 1, rfl, HL1, by omega, by omega⟩
      · have hl' : isL (bt bs q) = false := by simpa using hl
        have hd : isD (bt bs q) = true := by simpa [isI, hl'] using hi
        generalize bt bs q = c at *
        clear hi hl
        go_wp2_with (first | (go_at_call 24; refine (letter_no _ _ hcl.2 hl').mono ?_; rintro e w1 ⟨rfl, rfl⟩) | (go_at_call 25; refine (digit_yes _ _ hd).mono ?_; rintro e w1 ⟨rfl, rfl⟩))
        refine C.out.mono ?_
        rintro e w1 ⟨rfl, hL1, _⟩
        have HL1 := Lib.hid hL1
        clear hL1 C
        go_wp2_with fail
        go_roundg (k - (q + 1))
        case measure => omega
        case rel => exact ⟨q + 1, rfl, HL1, by omega, by omega⟩
    · have hqk : q = k := by omega
      subst hqk
      have hx := nx_ascii (bs := bs) (p := q) (by omega) hs1
      rw [hx.1] at c2
      have hl : isL (bt bs q) = false := by have := HS.out; simp [isI] at this; exact this.1
      have hd : isD (bt bs q) = false := by have := HS.out; simp [isI] at this; exact this.2
      have c3 := HL.out.off
      obtain ⟨b, o, cap, c1, hcap, hcm, hc⟩ := HL.out.text (by omega)
      have kc := fun n => conv_sub wr b o (cap - p) bs p q (by omega) (by omega) hc n
      clear hx hc HS
      generalize bt bs q = c at *
      have g0 : (0 : Int) ≤ (p : Int) := by omega
      have g1 : (p : Int) ≤ (q : Int) := by omega
      have g2 : (q : Int) ≤ (cap : Int) := by omega
      have g3 : ¬ cap = p := by omega
      go_wp2_with (first | (go_at_call 24; refine (letter_no _ _ hs1 hl).mono ?_; rintro e w1 ⟨rfl, rfl⟩) | (go_at_call 25; refine (digit_no _ _ hs1 hd).mono ?_; rintro e w1 ⟨rfl, rfl⟩))
      go_quiet (fail)
      go_wp2_with fail
      go_ret
      exact ⟨rfl, HL.out.draws _⟩
end Go.Proofs.YtjikoccbgekfmaaFmt.Core
