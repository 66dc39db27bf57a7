/-
  Proved: the walk of FnBranchStmtSpanMatchesText: it returns true at every argument.
  Conditions: token.tokens starts as the program's text lays it.
-/
import Derived.Test.YtpniflbleihdoaaDoorBranch
namespace Go.Proofs.YtpniflbleihdoaaDoor.Branch
open Go.ChangeShapes Go.WideShapes Go.ChangeAt Go.RowKit Go.Shelf Go.Lib Tok
set_option linter.unusedVariables false

def kw (ic : Bool) : ByteArray := if ic then ⟨#[99, 111, 110, 116, 105, 110, 117, 101]⟩ else ⟨#[98, 114, 101, 97, 107]⟩
theorem kw_any (ic : Bool) (w : World) : Calls Tryd.prog 24 #[.bool ic] w fun e w' => e = .returned (.string (kw ic)) ∧ w = w' := by
  cases ic <;> (go_enter Tryd.func24, Tryd.ntmps24; go_wp2_with fail; go_ret; exact ⟨rfl, rfl⟩)
theorem tok_any (ic : Bool) (w : World) : Calls Tryd.prog 25 #[.bool ic] w fun e w' => e = .returned (.int .i64 (if ic then 61 else 60)) ∧ w = w' := by
  cases ic <;> (go_enter Tryd.func25, Tryd.ntmps25; go_wp2_with fail; go_ret; exact ⟨rfl, rfl⟩)
theorem pos_any (s : Nat) (p : Int) (w : World) (h : w.cell? ⟨s, 1, none⟩ = some (.int .i64 p)) : Calls Tryd.prog 26 #[.pointer (some ⟨s, 0, none⟩)] w fun e w' => e = .returned (.int .i64 p) ∧ w = w' := by
  go_enter Tryd.func26, Tryd.ntmps26
  go_wp2_with fail
  go_ret
  exact ⟨rfl, rfl⟩
theorem bytes_any (ic hl : Bool) (nm : ByteArray) (p : Int) (w : World) (h : nm.size ≤ 1048576) : Calls Tryd.prog 23 #[.bool ic, .bool hl, .string nm, .int .i64 p] w fun e w' => e = .returned (.bool true) ∧ w = w' := by
  go_enter Tryd.func23, Tryd.ntmps23
  go_wp2_with fail
  go_ret
  exact ⟨rfl, rfl⟩
theorem w64_in {n : Int} (h0 : -9223372036854775808 ≤ n) (h1 : n ≤ 9223372036854775807) : wrap64 n = n := by unfold wrap64; omega
theorem sizeC (nm : ByteArray) : (({ data := #[99, 111, 110, 116, 105, 110, 117, 101] } : ByteArray) ++ ({ data := #[32] } ++ nm)).size = 9 + nm.size := by
  rw [ByteArray.size_append, ByteArray.size_append]
  show 8 + (1 + nm.size) = _
  omega
theorem sizeB (nm : ByteArray) : (({ data := #[98, 114, 101, 97, 107] } : ByteArray) ++ ({ data := #[32] } ++ nm)).size = 6 + nm.size := by
  rw [ByteArray.size_append, ByteArray.size_append]
  show 5 + (1 + nm.size) = _
  omega
theorem sizeC0 : (({ data := #[99, 111, 110, 116, 105, 110, 117, 101] } : ByteArray) ++ ({ data := #[] })).size = 8 := by
  rw [ByteArray.size_append]; rfl
theorem sizeB0 : (({ data := #[98, 114, 101, 97, 107] } : ByteArray) ++ ({ data := #[] })).size = 5 := by
  rw [ByteArray.size_append]; rfl

set_option maxHeartbeats 1000000 in
/-- FnBranchStmtSpanMatchesText. -/
theorem walkSpan0 (ic hl : Bool) (nm : ByteArray) (p : Int) (w : World) (hN : Names w) (hn : nm.size ≤ 9223372036854775807) (hp0 : -9223372036854775808 ≤ p) (hp1 : p ≤ 9223372036854775807) :
    Calls Tryd.prog 6 #[.bool ic, .bool hl, .string nm, .int .i64 p] w fun e w' => e = .returned (.bool true) ∧ Below w.heap.size w w' := by
  have HN := Lib.hid hN
  clear hN
  by_cases h : nm.size ≤ 65536
  · by_cases hp : p ≤ 9223372036854710255
    · cases hl with
      | true =>
        cases ic with
        | true =>
          have KW := Lib.hid (show wrap64 (wrap64 (p + ((kw true).size : Nat)) + 1) = p + 9 by rw [show (kw true).size = 8 from rfl]; unfold wrap64; omega)
          have e0 : wrap64 (p + 8 + 1 + nm.size) = p + 8 + 1 + nm.size := w64_in (by omega) (by omega)
          have e1 : wrap64 (p + 8 + 1 + nm.size - p) = 8 + 1 + nm.size := by rw [w64_in (by omega) (by omega)]; omega
          have z1 := sizeC nm
          have E0 := Lib.hid e0
          have E1 := Lib.hid e1
          have Z1 := Lib.hid z1
          clear e0 e1 z1
          go_enter Tryd.func6, Tryd.ntmps6
          go_wp2_with (first | (go_at_call 23; refine (bytes_any _ _ nm p _ (by omega)).mono ?_; rintro e w1 ⟨rfl, rfl⟩) | (go_at_call 24; refine (kw_any _ _).mono ?_; rintro e w1 ⟨rfl, rfl⟩) | (go_at_call 25; refine (tok_any _ _).mono ?_; rintro e w1 ⟨rfl, rfl⟩) | (go_at_call 26; refine (pos_any w.heap.size p _ (by go_simp)).mono ?_; rintro e w1 ⟨rfl, rfl⟩))
          refine (end_label w.heap.size (w.heap.size + 1) nm (p + 9) _ (by go_simp) (by go_simp) (by go_simp; exact KW.out)).mono ?_
          rintro e w1 ⟨rfl, k, rfl⟩
          go_wp2_with fail
          refine (string_label w.heap.size (w.heap.size + 1) nm 61 _ _ (by go_simp) (by go_simp) (by go_simp) (str_continue _ (HN.out.below (below2 _ _ _ _))) (by omega) (by decide)).mono ?_
          rintro e w1 ⟨rfl, rfl⟩
          go_wp2_with fail
          go_ret
          have Q : (wrap64 (wrap64 (p + 9 + nm.size) - p) == ((8 + (1 + nm.size) : Int))) = true := by rw [beq_iff_eq]; unfold wrap64; omega
          exact ⟨congrArg (fun b => Ending.returned (.bool b)) Q, below2 _ _ _ _⟩
        | false =>
          have KW := Lib.hid (show wrap64 (wrap64 (p + ((kw false).size : Nat)) + 1) = p + 6 by rw [show (kw false).size = 5 from rfl]; unfold wrap64; omega)
          have e0 : wrap64 (p + 5 + 1 + nm.size) = p + 5 + 1 + nm.size := w64_in (by omega) (by omega)
          have e1 : wrap64 (p + 5 + 1 + nm.size - p) = 5 + 1 + nm.size := by rw [w64_in (by omega) (by omega)]; omega
          have z1 := sizeB nm
          have E0 := Lib.hid e0
          have E1 := Lib.hid e1
          have Z1 := Lib.hid z1
          clear e0 e1 z1
          go_enter Tryd.func6, Tryd.ntmps6
          go_wp2_with (first | (go_at_call 23; refine (bytes_any _ _ nm p _ (by omega)).mono ?_; rintro e w1 ⟨rfl, rfl⟩) | (go_at_call 24; refine (kw_any _ _).mono ?_; rintro e w1 ⟨rfl, rfl⟩) | (go_at_call 25; refine (tok_any _ _).mono ?_; rintro e w1 ⟨rfl, rfl⟩) | (go_at_call 26; refine (pos_any w.heap.size p _ (by go_simp)).mono ?_; rintro e w1 ⟨rfl, rfl⟩))
          refine (end_label w.heap.size (w.heap.size + 1) nm (p + 6) _ (by go_simp) (by go_simp) (by go_simp; exact KW.out)).mono ?_
          rintro e w1 ⟨rfl, k, rfl⟩
          go_wp2_with fail
          refine (string_label w.heap.size (w.heap.size + 1) nm 60 _ _ (by go_simp) (by go_simp) (by go_simp) (str_break _ (HN.out.below (below2 _ _ _ _))) (by omega) (by decide)).mono ?_
          rintro e w1 ⟨rfl, rfl⟩
          go_wp2_with fail
          go_ret
          have Q : (wrap64 (wrap64 (p + 6 + nm.size) - p) == ((5 + (1 + nm.size) : Int))) = true := by rw [beq_iff_eq]; unfold wrap64; omega
          exact ⟨congrArg (fun b => Ending.returned (.bool b)) Q, below2 _ _ _ _⟩
      | false =>
        cases ic with
        | true =>
          have e0 : wrap64 (p + 8) = p + 8 := w64_in (by omega) (by omega)
          have e1 : wrap64 (p + 8 - p) = 8 := by rw [w64_in (by omega) (by omega)]; omega
          have E0 := Lib.hid e0
          have E1 := Lib.hid e1
          have Z1 := Lib.hid sizeC0
          clear e0 e1
          go_enter Tryd.func6, Tryd.ntmps6
          go_wp2_with (first | (go_at_call 23; refine (bytes_any _ _ nm p _ (by omega)).mono ?_; rintro e w1 ⟨rfl, rfl⟩) | (go_at_call 24; refine (kw_any _ _).mono ?_; rintro e w1 ⟨rfl, rfl⟩) | (go_at_call 25; refine (tok_any _ _).mono ?_; rintro e w1 ⟨rfl, rfl⟩) | (go_at_call 26; refine (pos_any w.heap.size p _ (by go_simp)).mono ?_; rintro e w1 ⟨rfl, rfl⟩))
          refine (end_bare w.heap.size 61 p _ _ (by go_simp) (by go_simp) (by go_simp) (fun n => str_continue _ (HN.out.below (below1 _ _ _)))).mono ?_
          rintro e w1 ⟨rfl, k, rfl⟩
          go_wp2_with fail
          refine (string_bare w.heap.size 61 _ _ (by go_simp) (by go_simp) (str_continue _ (HN.out.below (below1 _ _ _))) (by decide)).mono ?_
          rintro e w1 ⟨rfl, rfl⟩
          go_wp2_with fail
          go_ret
          have Q : (wrap64 (wrap64 (p + 8) - p) == ((8 : Int))) = true := by rw [beq_iff_eq]; unfold wrap64; omega
          exact ⟨congrArg (fun b => Ending.returned (.bool b)) Q, below1 _ _ _⟩
        | false =>
          have e0 : wrap64 (p + 5) = p + 5 := w64_in (by omega) (by omega)
          have e1 : wrap64 (p + 5 - p) = 5 := by rw [w64_in (by omega) (by omega)]; omega
          have E0 := Lib.hid e0
          have E1 := Lib.hid e1
          have Z1 := Lib.hid sizeB0
          clear e0 e1
          go_enter Tryd.func6, Tryd.ntmps6
          go_wp2_with (first | (go_at_call 23; refine (bytes_any _ _ nm p _ (by omega)).mono ?_; rintro e w1 ⟨rfl, rfl⟩) | (go_at_call 24; refine (kw_any _ _).mono ?_; rintro e w1 ⟨rfl, rfl⟩) | (go_at_call 25; refine (tok_any _ _).mono ?_; rintro e w1 ⟨rfl, rfl⟩) | (go_at_call 26; refine (pos_any w.heap.size p _ (by go_simp)).mono ?_; rintro e w1 ⟨rfl, rfl⟩))
          refine (end_bare w.heap.size 60 p _ _ (by go_simp) (by go_simp) (by go_simp) (fun n => str_break _ (HN.out.below (below1 _ _ _)))).mono ?_
          rintro e w1 ⟨rfl, k, rfl⟩
          go_wp2_with fail
          refine (string_bare w.heap.size 60 _ _ (by go_simp) (by go_simp) (str_break _ (HN.out.below (below1 _ _ _))) (by decide)).mono ?_
          rintro e w1 ⟨rfl, rfl⟩
          go_wp2_with fail
          go_ret
          have Q : (wrap64 (wrap64 (p + 5) - p) == ((5 : Int))) = true := by rw [beq_iff_eq]; unfold wrap64; omega
          exact ⟨congrArg (fun b => Ending.returned (.bool b)) Q, below1 _ _ _⟩
    · go_enter Tryd.func6, Tryd.ntmps6
      go_wp2_with (first | (go_at_call 23; go_in))
      go_ret
      exact ⟨rfl, Below.refl _ _⟩
  · by_cases h2 : nm.size ≤ 1048576
    · go_enter Tryd.func6, Tryd.ntmps6
      go_wp2_with (first | (go_at_call 23; go_in))
      go_ret
      exact ⟨rfl, Below.refl _ _⟩
    · go_enter Tryd.func6, Tryd.ntmps6
      go_wp2_with (first | (go_at_call 23; go_in))
      go_ret
      exact ⟨rfl, Below.refl _ _⟩

theorem walkSpan (ic hl : Bool) (nm : ByteArray) (p : Int) (wn : nm.size ≤ maxLen) (wp : (Lit.int .i64 p).wf = true) (w : World) (hL : laidMet Tryd.prog Rows.fnBranchStmtSpanMatchesTextRow.laid w) :
    Calls Tryd.prog 6 #[.bool ic, .bool hl, .string nm, .int .i64 p] w fun e w' => e = .returned (.bool true) ∧ Below w.heap.size w w' := by
  have hy : -9223372036854775808 ≤ p ∧ p ≤ 9223372036854775807 := by simpa [Lit.wf, IntKind.min, IntKind.max, IntKind.signed, IntKind.bits] using wp
  exact walkSpan0 ic hl nm p w (tabs_of hL) (by unfold maxLen at wn; omega) hy.1 hy.2
end Go.Proofs.YtpniflbleihdoaaDoor.Branch
