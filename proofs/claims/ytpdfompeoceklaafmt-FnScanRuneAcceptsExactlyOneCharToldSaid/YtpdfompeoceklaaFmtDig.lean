/-
  Proved: digitVal, lower, (*Scanner).scanDigits by contract.
  Conditions: the library's UTF-8 tables hold what the row lists.
-/
import Derived.Test.YtpdfompeoceklaaFmtNum
import Derived.Test.YtpdfompeoceklaaFmtLit
import Derived.Test.YtpdfompeoceklaaFmtPeek
import Derived.Deep.LoopGhost
import Derived.Laws.BitsLemmas
namespace Go.Proofs.YtpdfompeoceklaaFmt.Core
open Go.ChangeShapes Go.WideShapes Go.ChangeAt Go.RowKit
set_option linter.unusedVariables false

theorem dv_in {c : Int} (h : 48 ≤ c ∧ c ≤ 57) : (dv c : Int) = c - 48 := by unfold dv; rw [if_pos h]; omega
theorem dv_low {c : Int} (h : 97 ≤ c ∧ c ≤ 102) : (dv c : Int) = c - 97 + 10 := by unfold dv; rw [if_neg (by omega), if_pos h]; omega
theorem dv_up {c : Int} (h : 65 ≤ c ∧ c ≤ 70) : (dv c : Int) = c - 65 + 10 := by unfold dv; rw [if_neg (by omega), if_neg (by omega), if_pos h]; omega
theorem dv_out {c : Int} (h1 : ¬ (48 ≤ c ∧ c ≤ 57)) (h2 : ¬ (97 ≤ c ∧ c ≤ 102)) (h3 : ¬ (65 ≤ c ∧ c ≤ 70)) : dv c = 16 := by unfold dv; rw [if_neg h1, if_neg h2, if_neg h3]
set_option maxHeartbeats 1000000 in
theorem digitVal_any (c : Int) (w : World) (h0 : -1 ≤ c) (h1 : c ≤ 1114111) : Calls Tryf.prog 47 #[.int .i32 c] w fun e w' => e = .returned (.int .i64 (dv c)) ∧ w = w' := by
  by_cases k1 : 48 ≤ c ∧ c ≤ 57
  · rw [dv_in k1]
    have d1 : decide ((48 : Int) ≤ c) = true := decide_eq_true k1.1
    have d2 : decide (c ≤ 57) = true := decide_eq_true k1.2
    go_enter Tryf.func47, Tryf.ntmps47
    go_wp2_with fail
    go_ret
    exact ⟨rfl, rfl⟩
  by_cases k2 : 97 ≤ c ∧ c ≤ 102
  · rw [dv_low k2]
    have d1 : decide ((48 : Int) ≤ c) = true := decide_eq_true (by omega)
    have d2 : decide (c ≤ 57) = false := decide_eq_false (by omega)
    have d3 : decide ((97 : Int) ≤ c) = true := decide_eq_true (by omega)
    have d4 : decide (c ≤ 102) = true := decide_eq_true (by omega)
    go_enter Tryf.func47, Tryf.ntmps47
    go_wp2_with fail
    go_ret
    exact ⟨rfl, rfl⟩
  by_cases k3 : 65 ≤ c ∧ c ≤ 70
  · rw [dv_up k3]
    have d1 : decide ((48 : Int) ≤ c) = true := decide_eq_true (by omega)
    have d2 : decide (c ≤ 57) = false := decide_eq_false (by omega)
    have d3 : decide ((97 : Int) ≤ c) = false := decide_eq_false (by omega)
    have d5 : decide ((65 : Int) ≤ c) = true := decide_eq_true (by omega)
    have d6 : decide (c ≤ 70) = true := decide_eq_true (by omega)
    go_enter Tryf.func47, Tryf.ntmps47
    go_wp2_with fail
    go_ret
    exact ⟨rfl, rfl⟩
  rw [dv_out k1 k2 k3]
  by_cases a1 : c < 48
  · have d1 : decide ((48 : Int) ≤ c) = false := decide_eq_false (by omega)
    have d3 : decide ((97 : Int) ≤ c) = false := decide_eq_false (by omega)
    have d5 : decide ((65 : Int) ≤ c) = false := decide_eq_false (by omega)
    go_enter Tryf.func47, Tryf.ntmps47
    go_wp2_with fail
    go_ret
    exact ⟨rfl, rfl⟩
  have d1 : decide ((48 : Int) ≤ c) = true := decide_eq_true (by omega)
  have d2 : decide (c ≤ 57) = false := decide_eq_false (by omega)
  by_cases a2 : c < 65
  · have d3 : decide ((97 : Int) ≤ c) = false := decide_eq_false (by omega)
    have d5 : decide ((65 : Int) ≤ c) = false := decide_eq_false (by omega)
    go_enter Tryf.func47, Tryf.ntmps47
    go_wp2_with fail
    go_ret
    exact ⟨rfl, rfl⟩
  have d5 : decide ((65 : Int) ≤ c) = true := decide_eq_true (by omega)
  have d6 : decide (c ≤ 70) = false := decide_eq_false (by omega)
  by_cases a3 : c < 97
  · have d3 : decide ((97 : Int) ≤ c) = false := decide_eq_false (by omega)
    go_enter Tryf.func47, Tryf.ntmps47
    go_wp2_with fail
    go_ret
    exact ⟨rfl, rfl⟩
  have d3 : decide ((97 : Int) ≤ c) = true := decide_eq_true (by omega)
  have d4 : decide (c ≤ 102) = false := decide_eq_false (by omega)
  go_enter Tryf.func47, Tryf.ntmps47
  go_wp2_with fail
  go_ret
  exact ⟨rfl, rfl⟩
theorem nxCh_range (bs : List UInt8) (p : Nat) : -1 ≤ nxCh bs p ∧ nxCh bs p ≤ 1114111 := by
  unfold nxCh
  split
  · have := dec_rune bs p; omega
  · omega
/-- lower, at every byte. -/
def low (c : Nat) : Nat := if c / 32 % 2 = 1 then c else c + 32
theorem lower_val (c : Nat) (h : c < 256) : bits .or .u8 (c : Int) 32 = (low c : Int) := by
  have : ∀ c : Nat, c < 256 → bits .or .u8 (c : Int) 32 = (low c : Int) := by decide +kernel
  exact this c h
theorem lower_any (c : Nat) (w : World) (h : c < 256) : Calls Tryf.prog 40 #[.int .u8 c] w fun e w' => e = .returned (.int .u8 (low c)) ∧ w = w' := by
  have e := lower_val c h
  go_enter Tryf.func40, Tryf.ntmps40
  go_wp2_with fail
  go_ret
  exact ⟨rfl, rfl⟩

set_option maxHeartbeats 1000000 in
/-- (*Scanner).scanDigits. -/
theorem digits_any {w0 : Base} {w : World} {S : Nat} {bs : List UInt8} {semi : Bool} {mode : Int} {p base : Nat} {E : Int} (h : Live w0 w S bs semi mode p (E + nxErr bs p)) (h0 : 0 ≤ E) (h1 : E ≤ 1000000) (hb : base ≤ 16) :
    Calls Tryf.prog 42 #[.pointer (some ⟨S, 0, none⟩), .int .i64 base] w fun e w' => e = .returned (.tuple #[]) ∧ Live w0 w' S bs semi mode (digEnd bs base p) (E + nxErr bs (digEnd bs base p)) := by
  have H := Lib.hid h
  clear h
  go_enter Tryf.func42, Tryf.ntmps42
  go_wp2_with fail
  go_loopg [] (bs.length - p) (fun g wr => ∃ q : Nat, g = bs.length - q ∧ Hid (Live w0 wr S bs semi mode q (E + nxErr bs q)) ∧ Hid (digEnd bs base q = digEnd bs base p))
  case atStart => exact ⟨p, rfl, H, Lib.hid rfl⟩
  case round =>
    obtain ⟨q, rfl, HL, HE⟩ := hrel
    have c2 := HL.out.ch
    have hr := nxCh_range bs q
    have hle := HL.out.le
    by_cases hd : isDg base (nxCh bs q) = true
    · obtain ⟨hq, hd2⟩ := (isDg_ch hb).1 hd
      have hasc := isDg_ascii hb hd2
      have hx := nx_ascii (bs := bs) (p := q) hq (by omega)
      have hz := nxErr_clean (bs := bs) (p := q) (by omega) (by omega)
      have hne := nxErr_le (bs := bs) (p := q + 1)
      have HE2 := Lib.hid ((digEnd_step hq hd2).trans HE.out)
      have C := Lib.hid (live_next HL.out (by omega) (by omega))
      rw [hx.2, hz, Int.add_zero] at C
      have hd3 : nxCh bs q = 95 ∨ dv (nxCh bs q) < base := by simpa [isDg] using hd
      clear hx hz hd hd2 hasc
      generalize nxCh bs q = c at *
      by_cases h95 : c = 95
      · subst h95
        go_wp2_with fail
        refine C.out.mono ?_
        rintro e w1 ⟨rfl, hL1, _⟩
        have HL1 := Lib.hid hL1
        clear hL1 C
        go_wp2_with fail
        go_roundg (bs.length - (q + 1))
        case measure => omega
        case rel => exact ⟨q + 1, rfl, HL1, HE2⟩
      · have n95 : (c == 95) = false := by simpa using h95
        have hdv : dv c < base := by omega
        have D := Lib.hid (digitVal_any c wr hr.1 hr.2)
        clear hd3
        generalize dv c = d at *
        have dd : decide ((d : Int) < (base : Int)) = true := decide_eq_true (by omega)
        go_wp2_with (first | (go_at_call 47; refine D.out.mono ?_; rintro e w1 ⟨rfl, rfl⟩))
        refine C.out.mono ?_
        rintro e w1 ⟨rfl, hL1, _⟩
        have HL1 := Lib.hid hL1
        clear hL1 C
        go_wp2_with fail
        go_roundg (bs.length - (q + 1))
        case measure => omega
        case rel => exact ⟨q + 1, rfl, HL1, HE2⟩
    · have hd2 : isDg base (nxCh bs q) = false := by simpa using hd
      have hst := digEnd_stop (bs := bs) (base := base) (p := q) (fun hq => by
        cases hh : isDg base (bt bs q : Int) with
        | false => rfl
        | true => exact absurd ((isDg_ch hb).2 ⟨hq, hh⟩) hd)
      have HE2 := Lib.hid (hst.symm.trans HE.out)
      have hd3 : ¬ (nxCh bs q = 95 ∨ dv (nxCh bs q) < base) := by simpa [isDg] using hd
      clear hst hd hd2
      have D := Lib.hid (digitVal_any (nxCh bs q) wr hr.1 hr.2)
      have n95 : (nxCh bs q == 95) = false := by rw [beq_eq_false_iff_ne]; omega
      have dd : decide ((dv (nxCh bs q) : Int) < (base : Int)) = false := decide_eq_false (by omega)
      generalize dv (nxCh bs q) = d at *
      generalize nxCh bs q = c at *
      go_wp2_with (first | (go_at_call 47; refine D.out.mono ?_; rintro e w1 ⟨rfl, rfl⟩))
      go_end0
      have := HE2.out
      exact ⟨rfl, by rw [← this]; exact HL.out⟩
end Go.Proofs.YtpdfompeoceklaaFmt.Core
