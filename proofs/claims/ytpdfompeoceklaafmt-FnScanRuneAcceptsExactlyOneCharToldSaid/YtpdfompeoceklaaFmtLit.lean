/-
  Proved: (*Scanner).error on a scanner of one's own; a piece of the text as a string.
  Conditions: none beyond the scanner's own.
-/
import Derived.Test.YtpdfompeoceklaaFmtNx
import Derived.Laws.IdiomStrings
namespace Go.Proofs.YtpdfompeoceklaaFmt.Core
open Go.ChangeShapes Go.WideShapes Go.ChangeAt Go.RowKit
set_option linter.unusedVariables false

/-- (*Scanner).error counts one. -/
theorem live_error {w0 : Base} {w : World} {S : Nat} {bs : List UInt8} {semi : Bool} {mode : Int} {p : Nat} {errs : Int} (h : Live w0 w S bs semi mode p errs) (h0 : 0 ≤ errs) (h1 : errs < 4611686018427387904) (o : Int) (m : ByteArray) :
    Calls Tryf.prog 43 #[.pointer (some ⟨S, 0, none⟩), .int .i64 o, .string m] w fun e w' => e = .returned (.tuple #[]) ∧ Live w0 w' S bs semi mode p (errs + 1) := by
  have hc := h.counted (errs + 1)
  obtain ⟨F, L, A, cap, ⟨⟨lo, hS⟩, _⟩, _⟩ := h
  refine (error_any S _ _ _ _ _ _ _ _ errs o m w hS h0 h1).mono ?_
  rintro e w' ⟨rfl, rfl⟩
  exact ⟨rfl, hc⟩

/-- The bytes from l to h. -/
def sub (bs : List UInt8) (l h : Nat) : List UInt8 := (bs.drop l).take (h - l)
theorem sub_len {bs : List UInt8} {l h : Nat} (hh : h ≤ bs.length) : (sub bs l h).length = h - l := by
  unfold sub
  rw [List.length_take, List.length_drop]
  omega
theorem sub_get {bs : List UInt8} {l h j : Nat} (hj : j < h - l) : (sub bs l h)[j]? = bs[l + j]? := by
  unfold sub
  rw [List.getElem?_take, if_pos hj, List.getElem?_drop]
theorem sub_bt {bs : List UInt8} {l h j : Nat} (hj : j < h - l) : bt (sub bs l h) j = bt bs (l + j) := by
  unfold bt
  rw [List.getD_eq_getElem?_getD, List.getD_eq_getElem?_getD, sub_get hj]
theorem conv_list (w : World) (b o cap : Nat) (ls : List UInt8) (hc : ∀ j, j < ls.length → w.cell? ⟨b, o + j, none⟩ = some (.int .u8 (bt ls j))) :
    (convert 22 9 (.slice (some ⟨b, o, none⟩) ls.length cap)).run Tryf.prog w = .ok (.string ⟨ls.toArray⟩) w := by
  refine run_convert_bytes_back w 22 9 5 ⟨b, o, none⟩ cap ls Tryf.underlying22 Tryf.underlying5 Tryf.underlying9 (fun j hj => ?_)
  rw [Addr.add_lit, hc j hj]
  unfold bt
  rw [List.getD_eq_getElem?_getD, List.getElem?_eq_getElem hj, Option.getD_some]
theorem conv_sub (w : World) (b o cap : Nat) (bs : List UInt8) (l h : Nat) (hl : l ≤ h) (hh : h ≤ bs.length) (hc : ∀ j, j < bs.length → w.cell? ⟨b, o + j, none⟩ = some (.int .u8 (bt bs j))) :
    ∀ n, (convert 22 9 (.slice (some ⟨b, o + l, none⟩) (h - l) cap)).run Tryf.prog (w.drewN n) = .ok (.string ⟨(sub bs l h).toArray⟩) (w.drewN n) := by
  intro n
  have := conv_list (w.drewN n) b (o + l) cap (sub bs l h) (fun j hj => by
    rw [sub_len hh] at hj
    rw [sub_bt hj, show o + l + j = o + (l + j) by omega]
    exact hc (l + j) (by omega))
  rwa [sub_len hh] at this
/-- The text in the scanner's own field. -/
theorem Live.text {w0 : Base} {w : World} {S : Nat} {bs : List UInt8} {semi : Bool} {mode : Int} {p : Nat} {errs : Int} (h : Live w0 w S bs semi mode p errs) (hp : 0 < bs.length) :
    ∃ b o cap, w.cell? ⟨S, 1, none⟩ = some (.slice (some ⟨b, o, none⟩) bs.length cap) ∧ bs.length ≤ cap ∧ cap ≤ 9223372036854775807 ∧ ∀ j, j < bs.length → w.cell? ⟨b, o + j, none⟩ = some (.int .u8 (bt bs j)) := by
  obtain ⟨A, cap, h1, h2, h3, h4⟩ := h.src
  obtain ⟨b, o, rfl, hc⟩ := h4 hp
  exact ⟨b, o, cap, h1, h2, by unfold maxLen at h3; omega, hc⟩
end Go.Proofs.YtpdfompeoceklaaFmt.Core
