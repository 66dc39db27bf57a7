/-
  Proved: (*Scanner).peek gives the byte that is read next, or 0 at the text's end; it moves nothing.
  Conditions: none beyond the scanner's own.
-/
import Derived.Test.YtpdfompeoceklaaFmtLive
import Derived.Deep.QuietTactic
import Derived.BigQuiet
namespace Go.Proofs.YtpdfompeoceklaaFmt.Core
open Go.ChangeShapes Go.WideShapes Go.ChangeAt Go.RowKit
set_option linter.unusedVariables false

def pk (bs : List UInt8) (r : Nat) : Nat := if r < bs.length then bt bs r else 0
set_option maxHeartbeats 1000000 in
theorem peek_any {w0 : Base} {w : World} {S : Nat} {bs : List UInt8} {semi : Bool} {mode : Int} {p : Nat} {errs : Int} (h : Live w0 w S bs semi mode p errs) :
    Calls Tryf.prog 41 #[.pointer (some ⟨S, 0, none⟩)] w fun e w' => e = .returned (.int .u8 (pk bs (nxRd bs p))) ∧ ∃ k, w' = w.drewN k := by
  have c4 := h.rd
  obtain ⟨A, cap, c1, hs⟩ := h.src
  have hl := h.len
  clear h
  generalize nxRd bs p = r at *
  by_cases hr : r < bs.length
  · have e : pk bs r = bt bs r := by unfold pk; rw [if_pos hr]
    rw [e]
    obtain ⟨b, o, rfl, hc⟩ := hs.2.2 (by omega)
    have cr := hc r hr
    have hr' : (r : Int) < (bs.length : Int) := by omega
    have hr2 : decide ((r : Int) < (bs.length : Int)) = true := decide_eq_true hr'
    clear hc hs e
    go_enter Tryf.func41, Tryf.ntmps41
    go_wp2_with fail
    go_quiet (fail)
    go_wp2_with fail
    go_quiet (fail)
    go_wp2_with fail
    go_ret
    exact ⟨rfl, _, by rw [World.drewN_drewN]⟩
  · have e : pk bs r = 0 := by unfold pk; rw [if_neg hr]
    rw [e]
    have hr2 : decide ((r : Int) < (bs.length : Int)) = false := decide_eq_false (by omega)
    have hr3 : decide (r < bs.length) = false := decide_eq_false hr
    clear hs e
    go_enter Tryf.func41, Tryf.ntmps41
    go_wp2_with fail
    go_quiet (fail)
    go_wp2_with fail
    go_ret
    exact ⟨rfl, _, rfl⟩
end Go.Proofs.YtpdfompeoceklaaFmt.Core
