/-
  Proved: (*Scanner).skipWhitespace without a semicolon owed moves on to the first byte that is no white space.
  Conditions: the library's UTF-8 tables hold what the row lists.
-/
import Derived.Test.YtcaolpebjpilgaaFmtLive
import Derived.Deep.LoopGhost
namespace Go.Proofs.YtcaolpebjpilgaaFmt.Core
open Go.ChangeShapes Go.WideShapes Go.ChangeAt Go.RowKit
set_option linter.unusedVariables false

def isWs (c : Nat) : Bool := decide (c = 32 ∨ c = 9 ∨ c = 10 ∨ c = 13)
def wsEnd (bs : List UInt8) (p : Nat) : Nat := p + ((bs.drop p).takeWhile fun b => isWs b.toNat).length
theorem bt_drop {bs : List UInt8} {p : Nat} (h : p < bs.length) : ∃ b, bs.drop p = b :: bs.drop (p + 1) ∧ bt bs p = b.toNat := by
  refine ⟨bs[p]'h, List.drop_eq_getElem_cons h, ?_⟩
  unfold bt
  rw [List.getD_eq_getElem?_getD, List.getElem?_eq_getElem h, Option.getD_some]
theorem wsEnd_step {bs : List UInt8} {p : Nat} (h : p < bs.length) (hw : isWs (bt bs p) = true) : wsEnd bs (p + 1) = wsEnd bs p := by
  obtain ⟨b, h1, h2⟩ := bt_drop h
  unfold wsEnd
  rw [h1, List.takeWhile_cons, if_pos (by rw [← h2]; exact hw), List.length_cons]
  omega
theorem wsEnd_stop {bs : List UInt8} {p : Nat} (h : p < bs.length → isWs (bt bs p) = false) : wsEnd bs p = p := by
  unfold wsEnd
  by_cases hp : p < bs.length
  · obtain ⟨b, h1, h2⟩ := bt_drop hp
    rw [h1, List.takeWhile_cons, if_neg (by rw [← h2, h hp]; simp)]
    rfl
  · rw [List.drop_of_length_le (by omega)]
    rfl
theorem wsEnd_le {bs : List UInt8} {p : Nat} (h : p ≤ bs.length) : p ≤ wsEnd bs p ∧ wsEnd bs p ≤ bs.length := by
  have h1 := (List.takeWhile_sublist (p := fun b : UInt8 => isWs b.toNat) (l := bs.drop p)).length_le
  rw [List.length_drop] at h1
  unfold wsEnd
  omega
/-- An ASCII byte is its own character, one byte wide. -/
theorem nx_ascii {bs : List UInt8} {p : Nat} (h : p < bs.length) (ha : bt bs p < 128) : nxCh bs p = (bt bs p : Int) ∧ nxRd bs p = p + 1 := by
  unfold nxCh nxRd
  rw [if_pos h, if_pos h, dec_ascii bs ha]
  exact ⟨rfl, rfl⟩
theorem nx_high {bs : List UInt8} {p : Nat} (h : p < bs.length) (ha : 128 ≤ bt bs p) : 128 ≤ nxCh bs p := by
  unfold nxCh
  rw [if_pos h]
  have := dec_high bs ha
  omega
theorem nx_end {bs : List UInt8} {p : Nat} (h : bs.length ≤ p) : nxCh bs p = -1 ∧ nxRd bs p = p := by
  unfold nxCh nxRd
  rw [if_neg (by omega), if_neg (by omega)]
  exact ⟨rfl, rfl⟩
/-- The character is the ASCII byte c just where the byte is. -/
theorem nxCh_eq {bs : List UInt8} {p c : Nat} (hc : c < 128) : nxCh bs p = (c : Int) ↔ (p < bs.length ∧ bt bs p = c) := by
  by_cases h : p < bs.length
  · by_cases ha : bt bs p < 128
    · rw [(nx_ascii h ha).1]; omega
    · have := nx_high h (by omega); omega
  · rw [(nx_end (by omega)).1]; omega
theorem nxErr_le {bs : List UInt8} {p : Nat} : 0 ≤ nxErr bs p ∧ nxErr bs p ≤ 1 := nxErr_01 bs p

set_option maxHeartbeats 2000000 in
theorem skip_any {w0 w : World} {S : Nat} {bs : List UInt8} {mode : Int} {p : Nat} {errs : Int} (h : Live w0 w S bs false mode p errs) (h0 : 0 ≤ errs) (h1 : errs ≤ p + 1) :
    Calls Tryf.prog 37 #[.pointer (some ⟨S, 0, none⟩)] w fun e w' => e = .returned (.tuple #[]) ∧ ∃ errs', Live w0 w' S bs false mode (wsEnd bs p) errs' ∧ 0 ≤ errs' ∧ errs' ≤ wsEnd bs p + 1 := by
  have H := Lib.hid h
  clear h
  go_enter Tryf.func37, Tryf.ntmps37
  go_wp2_with fail
  go_loopg [] (bs.length - p) (fun g wr => ∃ (q : Nat) (er : Int), g = bs.length - q ∧ Hid (Live w0 wr S bs false mode q er) ∧ 0 ≤ er ∧ er ≤ q + 1 ∧ wsEnd bs q = wsEnd bs p)
  case atStart => exact ⟨p, errs, rfl, H, h0, h1, rfl⟩
  case round =>
    obtain ⟨q, er, rfl, HL, e0, e1, eq⟩ := hrel
    have hlen := HL.out.len
    have hle := HL.out.le
    have c2 := HL.out.ch
    have c6 := HL.out.semiC
    by_cases hw : q < bs.length ∧ isWs (bt bs q) = true
    · obtain ⟨hq, hw⟩ := hw
      have hwc : bt bs q = 32 ∨ bt bs q = 9 ∨ bt bs q = 10 ∨ bt bs q = 13 := by simpa [isWs] using hw
      have hx := nx_ascii hq (by omega)
      have hst := wsEnd_step hq hw
      have C := Lib.hid (live_next HL.out e0 (by omega))
      rw [hx.2] at C
      have hch := hx.1
      clear hw hx
      have EQ := Lib.hid (hst.trans eq)
      clear hst eq
      have hne := nxErr_le (bs := bs) (p := q + 1)
      rcases hwc with hwc | hwc | hwc | hwc
      all_goals
        rw [hch, hwc] at c2
        clear hch hwc
        go_wp2_with fail
        refine C.out.mono ?_
        rintro e w1 ⟨rfl, hL1, _⟩
        have HL1 := Lib.hid hL1
        clear hL1
        go_wp2_with fail
        go_roundg (bs.length - (q + 1))
        case measure => omega
        case rel => exact ⟨q + 1, _, rfl, HL1, by omega, by omega, EQ.out⟩
    · have hk : ∀ c : Nat, c < 128 → isWs c = true → nxCh bs q ≠ (c : Int) := by
        intro c hc hcw hh
        have := (nxCh_eq hc).1 hh
        rw [← this.2] at hcw
        exact hw ⟨this.1, hcw⟩
      have k1 : ((nxCh bs q : Int) == 32) = false := by rw [beq_eq_false_iff_ne]; exact hk 32 (by omega) rfl
      have k2 : ((nxCh bs q : Int) == 9) = false := by rw [beq_eq_false_iff_ne]; exact hk 9 (by omega) rfl
      have k3 : ((nxCh bs q : Int) == 10) = false := by rw [beq_eq_false_iff_ne]; exact hk 10 (by omega) rfl
      have k4 : ((nxCh bs q : Int) == 13) = false := by rw [beq_eq_false_iff_ne]; exact hk 13 (by omega) rfl
      have hst := wsEnd_stop (bs := bs) (p := q) (fun hq => by cases hh : isWs (bt bs q) with
        | false => rfl
        | true => exact absurd ⟨hq, hh⟩ hw)
      have EQ := Lib.hid (hst.symm.trans eq)
      clear hst eq hk hw
      go_wp2_with fail
      go_end0
      have := EQ.out
      exact ⟨rfl, er, by rw [← this]; exact HL.out, e0, by rw [← this]; exact e1⟩
end Go.Proofs.YtcaolpebjpilgaaFmt.Core
