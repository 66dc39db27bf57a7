/-
  Proved: plain laws on a text's characters: ASCII bytes, the end, what counts as an error.
  Conditions: none.
-/
import Derived.Test.YtpdfompeoceklaaFmtLive
namespace Go.Proofs.YtpdfompeoceklaaFmt.Core
open Go.ChangeShapes Go.WideShapes Go.ChangeAt Go.RowKit
set_option linter.unusedVariables false

theorem bt_drop {bs : List UInt8} {p : Nat} (h : p < bs.length) : ∃ b, bs.drop p = b :: bs.drop (p + 1) ∧ bt bs p = b.toNat := by
  refine ⟨bs[p]'h, List.drop_eq_getElem_cons h, ?_⟩
  unfold bt
  rw [List.getD_eq_getElem?_getD, List.getElem?_eq_getElem h, Option.getD_some]
/-- An ASCII byte is its own character, one byte wide. -/
theorem nx_ascii {bs : List UInt8} {p : Nat} (h : p < bs.length) (ha : bt bs p < 128) : nxCh bs p = (bt bs p : Int) ∧ nxRd bs p = p + 1 := by
  unfold nxCh nxRd
  rw [if_pos h, if_pos h, dec_ascii bs ha]
  exact ⟨rfl, rfl⟩
theorem nx_high {bs : List UInt8} {p : Nat} (h : p < bs.length) (ha : 128 ≤ bt bs p) : 128 ≤ nxCh bs p := by
  unfold nxCh
  rw [if_pos h]
  have := dec_high bs ha
  omega
theorem nx_end {bs : List UInt8} {p : Nat} (h : bs.length ≤ p) : nxCh bs p = -1 ∧ nxRd bs p = p := by
  unfold nxCh nxRd
  rw [if_neg (by omega), if_neg (by omega)]
  exact ⟨rfl, rfl⟩
/-- The character is the ASCII byte c just where the byte is. -/
theorem nxCh_eq {bs : List UInt8} {p c : Nat} (hc : c < 128) : nxCh bs p = (c : Int) ↔ (p < bs.length ∧ bt bs p = c) := by
  by_cases h : p < bs.length
  · by_cases ha : bt bs p < 128
    · rw [(nx_ascii h ha).1]; omega
    · have := nx_high h (by omega); omega
  · rw [(nx_end (by omega)).1]; omega
theorem nxErr_le {bs : List UInt8} {p : Nat} : 0 ≤ nxErr bs p ∧ nxErr bs p ≤ 1 := nxErr_01 bs p
theorem nxRd_gt {bs : List UInt8} {p : Nat} (h : p < bs.length) : p < nxRd bs p ∧ nxRd bs p ≤ bs.length := by
  have := dec_width bs h
  unfold nxRd
  rw [if_pos h]
  omega
/-- A clean ASCII byte is no error. -/
theorem nxErr_clean {bs : List UInt8} {p : Nat} (h0 : 0 < bt bs p) (h1 : bt bs p < 128) : nxErr bs p = 0 := by
  apply nxErr_no
  unfold bad
  rw [dec_ascii bs h1]
  simp only
  omega
theorem nxErr_ascii {bs : List UInt8} {p : Nat} (h : p < bs.length) (h1 : bt bs p < 128) : nxErr bs p = if bt bs p = 0 then 1 else 0 := by
  by_cases h0 : bt bs p = 0
  · rw [if_pos h0]
    unfold nxErr
    rw [if_pos]
    refine ⟨h, ?_⟩
    unfold bad
    rw [dec_ascii bs h1]
    exact .inl h0
  · rw [if_neg h0, nxErr_clean (by omega) h1]
theorem nxErr_end {bs : List UInt8} {p : Nat} (h : bs.length ≤ p) : nxErr bs p = 0 := by
  unfold nxErr
  rw [if_neg (by omega)]
/-- A text that begins with an ASCII byte has no byte order mark. -/
theorem bom_ascii {bs : List UInt8} (h : bt bs 0 < 128) : bom bs = 0 := bom_no (by omega)
/-- Every byte of a character beyond ASCII is beyond ASCII. -/
theorem decodeN_wide (n b0 b1 b2 b3 : Nat) (h : 128 ≤ b0) (h1 : b1 < 256) (h2 : b2 < 256) (h3 : b3 < 256) : (1 < (Lib.decodeN n b0 b1 b2 b3).2 → 128 ≤ b1) ∧ (2 < (Lib.decodeN n b0 b1 b2 b3).2 → 128 ≤ b2) ∧ (3 < (Lib.decodeN n b0 b1 b2 b3).2 → 128 ≤ b3) := by
  unfold Lib.decodeN
  rw [if_neg (by omega)]
  repeat' split
  all_goals (simp only; omega)
theorem nx_wide {bs : List UInt8} {p : Nat} (h : p < bs.length) (ha : 128 ≤ bt bs p) {j : Nat} (h1 : p ≤ j) (h2 : j < nxRd bs p) : 128 ≤ bt bs j := by
  have hw := dec_width bs h
  have hr : nxRd bs p = p + (dec bs p).2 := by unfold nxRd; rw [if_pos h]
  rw [hr] at h2
  obtain ⟨k1, k2, k3⟩ := decodeN_wide (bs.length - p) (bt bs p) (bt bs (p + 1)) (bt bs (p + 2)) (bt bs (p + 3)) ha (bt_lt _ _) (bt_lt _ _) (bt_lt _ _)
  have hj : j = p ∨ j = p + 1 ∨ j = p + 2 ∨ j = p + 3 := by omega
  rcases hj with rfl | rfl | rfl | rfl
  · exact ha
  · exact k1 (by unfold dec at h2; omega)
  · exact k2 (by unfold dec at h2; omega)
  · exact k3 (by unfold dec at h2; omega)
end Go.Proofs.YtpdfompeoceklaaFmt.Core
