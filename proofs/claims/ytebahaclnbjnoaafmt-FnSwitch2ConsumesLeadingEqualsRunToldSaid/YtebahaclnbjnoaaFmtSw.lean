/-
  Proved: (*Scanner).switch2, switch3 and switch4, and n002_88's doors to them, by contract, way by way.
  Conditions: the library's UTF-8 tables hold what the row lists; the tokens are of Go's int.
-/
import Derived.Test.YtebahaclnbjnoaaFmtNx
namespace Go.Proofs.YtebahaclnbjnoaaFmt.Core
open Go.ChangeShapes Go.WideShapes Go.ChangeAt Go.RowKit
set_option linter.unusedVariables false

/-- A number of Go's int. -/
def I64 (t : Int) : Prop := -9223372036854775808 ≤ t ∧ t ≤ 9223372036854775807

set_option maxHeartbeats 1000000 in
theorem sw2_eq {w0 : Base} {w : World} {S : Nat} {bs : List UInt8} {semi : Bool} {mode : Int} {p : Nat} {errs : Int} (h : Live w0 w S bs semi mode p errs) (h0 : 0 ≤ errs) (h1 : errs < 4611686018427387000) (t0 t1 : Int) (hp : p < bs.length) (hb : bt bs p = 61) :
    Calls Tryf.prog 16 #[.pointer (some ⟨S, 0, none⟩), .int .i64 t0, .int .i64 t1] w fun e w' => e = .returned (.int .i64 t1) ∧ Live w0 w' S bs semi mode (p + 1) (errs + nxErr bs (p + 1)) := by
  have c2 := h.ch
  have hx := nx_ascii hp (by omega)
  rw [hx.1, hb] at c2
  have C := Lib.hid (live_next h h0 (by omega))
  rw [hx.2] at C
  clear h hx hb
  go_enter Tryf.func16, Tryf.ntmps16
  go_wp2_with fail
  refine C.out.mono ?_
  rintro e w1 ⟨rfl, hL, _⟩
  have HL := Lib.hid hL
  clear hL C
  go_wp2_with fail
  go_ret
  exact ⟨rfl, HL.out⟩
set_option maxHeartbeats 1000000 in
theorem sw2_no {w0 : Base} {w : World} {S : Nat} {bs : List UInt8} {semi : Bool} {mode : Int} {p : Nat} {errs : Int} (h : Live w0 w S bs semi mode p errs) (h0 : 0 ≤ errs) (h1 : errs < 4611686018427387000) (t0 t1 : Int) (hb : ¬ (p < bs.length ∧ bt bs p = 61)) :
    Calls Tryf.prog 16 #[.pointer (some ⟨S, 0, none⟩), .int .i64 t0, .int .i64 t1] w fun e w' => e = .returned (.int .i64 t0) ∧ w = w' := by
  have c2 := h.ch
  have k1 : ((nxCh bs p : Int) == 61) = false := by
    rw [beq_eq_false_iff_ne]
    exact fun hh => hb ((nxCh_eq (by omega)).1 hh)
  clear h hb
  go_enter Tryf.func16, Tryf.ntmps16
  go_wp2_with fail
  go_ret
  exact ⟨rfl, rfl⟩
set_option maxHeartbeats 1000000 in
theorem door2_eq {w0 : Base} {w : World} {S : Nat} {bs : List UInt8} {semi : Bool} {mode : Int} {p : Nat} {errs : Int} (h : Live w0 w S bs semi mode p errs) (h0 : 0 ≤ errs) (h1 : errs < 4611686018427387000) (t0 t1 : Int) (it0 : I64 t0) (it1 : I64 t1) (hp : p < bs.length) (hb : bt bs p = 61) :
    Calls Tryf.prog 8 #[.pointer (some ⟨S, 0, none⟩), .int .i64 t0, .int .i64 t1] w fun e w' => e = .returned (.int .i64 t1) ∧ Live w0 w' S bs semi mode (p + 1) (errs + nxErr bs (p + 1)) := by
  have C := Lib.hid (sw2_eq h h0 h1 t0 t1 hp hb)
  clear h
  have bt0 := it0.1
  have dt0 := it0.2
  have bt1 := it1.1
  have dt1 := it1.2
  go_enter Tryf.func8, Tryf.ntmps8
  go_wp2_with fail
  refine C.out.mono ?_
  rintro e w1 ⟨rfl, hL⟩
  have HL := Lib.hid hL
  clear hL C
  go_wp2_with fail
  go_ret
  exact ⟨rfl, HL.out⟩
set_option maxHeartbeats 1000000 in
theorem door2_no {w0 : Base} {w : World} {S : Nat} {bs : List UInt8} {semi : Bool} {mode : Int} {p : Nat} {errs : Int} (h : Live w0 w S bs semi mode p errs) (h0 : 0 ≤ errs) (h1 : errs < 4611686018427387000) (t0 t1 : Int) (it0 : I64 t0) (it1 : I64 t1) (hb : ¬ (p < bs.length ∧ bt bs p = 61)) :
    Calls Tryf.prog 8 #[.pointer (some ⟨S, 0, none⟩), .int .i64 t0, .int .i64 t1] w fun e w' => e = .returned (.int .i64 t0) ∧ w = w' := by
  have C := Lib.hid (sw2_no h h0 h1 t0 t1 hb)
  clear h
  have bt0 := it0.1
  have dt0 := it0.2
  have bt1 := it1.1
  have dt1 := it1.2
  go_enter Tryf.func8, Tryf.ntmps8
  go_wp2_with fail
  refine C.out.mono ?_
  rintro e w1 ⟨rfl, rfl⟩
  clear C
  go_wp2_with fail
  go_ret
  exact ⟨rfl, rfl⟩
set_option maxHeartbeats 1000000 in
theorem sw3_eq {w0 : Base} {w : World} {S : Nat} {bs : List UInt8} {semi : Bool} {mode : Int} {p : Nat} {errs : Int} (h : Live w0 w S bs semi mode p errs) (h0 : 0 ≤ errs) (h1 : errs < 4611686018427387000) (t0 t1 : Int) (c : Nat) (t2 : Int) (hp : p < bs.length) (hb : bt bs p = 61) :
    Calls Tryf.prog 17 #[.pointer (some ⟨S, 0, none⟩), .int .i64 t0, .int .i64 t1, .int .i32 c, .int .i64 t2] w fun e w' => e = .returned (.int .i64 t1) ∧ Live w0 w' S bs semi mode (p + 1) (errs + nxErr bs (p + 1)) := by
  have c2 := h.ch
  have hx := nx_ascii hp (by omega)
  rw [hx.1, hb] at c2
  have C := Lib.hid (live_next h h0 (by omega))
  rw [hx.2] at C
  clear h hx hb
  go_enter Tryf.func17, Tryf.ntmps17
  go_wp2_with fail
  refine C.out.mono ?_
  rintro e w1 ⟨rfl, hL, _⟩
  have HL := Lib.hid hL
  clear hL C
  go_wp2_with fail
  go_ret
  exact ⟨rfl, HL.out⟩
set_option maxHeartbeats 1000000 in
theorem sw3_no {w0 : Base} {w : World} {S : Nat} {bs : List UInt8} {semi : Bool} {mode : Int} {p : Nat} {errs : Int} (h : Live w0 w S bs semi mode p errs) (h0 : 0 ≤ errs) (h1 : errs < 4611686018427387000) (t0 t1 : Int) (c : Nat) (t2 : Int) (hc : c < 128) (hb : ¬ (p < bs.length ∧ bt bs p = 61)) (hb2 : ¬ (p < bs.length ∧ bt bs p = c)) :
    Calls Tryf.prog 17 #[.pointer (some ⟨S, 0, none⟩), .int .i64 t0, .int .i64 t1, .int .i32 c, .int .i64 t2] w fun e w' => e = .returned (.int .i64 t0) ∧ w = w' := by
  have c2 := h.ch
  have k1 : ((nxCh bs p : Int) == 61) = false := by
    rw [beq_eq_false_iff_ne]
    exact fun hh => hb ((nxCh_eq (by omega)).1 hh)
  have k2 : ((nxCh bs p : Int) == (c : Int)) = false := by
    rw [beq_eq_false_iff_ne]
    exact fun hh => hb2 ((nxCh_eq hc).1 hh)
  clear h hb hb2
  go_enter Tryf.func17, Tryf.ntmps17
  go_wp2_with fail
  go_ret
  exact ⟨rfl, rfl⟩
set_option maxHeartbeats 1000000 in
theorem sw3_two {w0 : Base} {w : World} {S : Nat} {bs : List UInt8} {semi : Bool} {mode : Int} {p : Nat} {errs : Int} (h : Live w0 w S bs semi mode p errs) (h0 : 0 ≤ errs) (h1 : errs < 4611686018427387000) (t0 t1 : Int) (c : Nat) (t2 : Int) (hc : c < 128) (hp : p < bs.length) (hb : bt bs p = c) (hne : c ≠ 61) :
    Calls Tryf.prog 17 #[.pointer (some ⟨S, 0, none⟩), .int .i64 t0, .int .i64 t1, .int .i32 c, .int .i64 t2] w fun e w' => e = .returned (.int .i64 t2) ∧ Live w0 w' S bs semi mode (p + 1) (errs + nxErr bs (p + 1)) := by
  have c2 := h.ch
  have hx := nx_ascii hp (by omega)
  rw [hx.1, hb] at c2
  have C := Lib.hid (live_next h h0 (by omega))
  rw [hx.2] at C
  have k1 : ((c : Int) == 61) = false := by simp; omega
  have k2 : ((c : Int) == (c : Int)) = true := by simp
  clear h hx hb
  go_enter Tryf.func17, Tryf.ntmps17
  go_wp2_with fail
  refine C.out.mono ?_
  rintro e w1 ⟨rfl, hL, _⟩
  have HL := Lib.hid hL
  clear hL C
  go_wp2_with fail
  go_ret
  exact ⟨rfl, HL.out⟩
set_option maxHeartbeats 1000000 in
theorem door3_eq {w0 : Base} {w : World} {S : Nat} {bs : List UInt8} {semi : Bool} {mode : Int} {p : Nat} {errs : Int} (h : Live w0 w S bs semi mode p errs) (h0 : 0 ≤ errs) (h1 : errs < 4611686018427387000) (t0 t1 : Int) (c : Nat) (t2 : Int) (it0 : I64 t0) (it1 : I64 t1) (it2 : I64 t2) (hp : p < bs.length) (hb : bt bs p = 61) :
    Calls Tryf.prog 11 #[.pointer (some ⟨S, 0, none⟩), .int .i64 t0, .int .i64 t1, .int .i32 c, .int .i64 t2] w fun e w' => e = .returned (.int .i64 t1) ∧ Live w0 w' S bs semi mode (p + 1) (errs + nxErr bs (p + 1)) := by
  have C := Lib.hid (sw3_eq h h0 h1 t0 t1 c t2 hp hb)
  clear h
  have bt0 := it0.1
  have dt0 := it0.2
  have bt1 := it1.1
  have dt1 := it1.2
  have bt2 := it2.1
  have dt2 := it2.2
  go_enter Tryf.func11, Tryf.ntmps11
  go_wp2_with fail
  refine C.out.mono ?_
  rintro e w1 ⟨rfl, hL⟩
  have HL := Lib.hid hL
  clear hL C
  go_wp2_with fail
  go_ret
  exact ⟨rfl, HL.out⟩
set_option maxHeartbeats 1000000 in
theorem door3_no {w0 : Base} {w : World} {S : Nat} {bs : List UInt8} {semi : Bool} {mode : Int} {p : Nat} {errs : Int} (h : Live w0 w S bs semi mode p errs) (h0 : 0 ≤ errs) (h1 : errs < 4611686018427387000) (t0 t1 : Int) (c : Nat) (t2 : Int) (it0 : I64 t0) (it1 : I64 t1) (it2 : I64 t2) (hc : c < 128) (hb : ¬ (p < bs.length ∧ bt bs p = 61)) (hb2 : ¬ (p < bs.length ∧ bt bs p = c)) :
    Calls Tryf.prog 11 #[.pointer (some ⟨S, 0, none⟩), .int .i64 t0, .int .i64 t1, .int .i32 c, .int .i64 t2] w fun e w' => e = .returned (.int .i64 t0) ∧ w = w' := by
  have C := Lib.hid (sw3_no h h0 h1 t0 t1 c t2 hc hb hb2)
  clear h
  have bt0 := it0.1
  have dt0 := it0.2
  have bt1 := it1.1
  have dt1 := it1.2
  have bt2 := it2.1
  have dt2 := it2.2
  go_enter Tryf.func11, Tryf.ntmps11
  go_wp2_with fail
  refine C.out.mono ?_
  rintro e w1 ⟨rfl, rfl⟩
  clear C
  go_wp2_with fail
  go_ret
  exact ⟨rfl, rfl⟩
set_option maxHeartbeats 1000000 in
theorem door3_two {w0 : Base} {w : World} {S : Nat} {bs : List UInt8} {semi : Bool} {mode : Int} {p : Nat} {errs : Int} (h : Live w0 w S bs semi mode p errs) (h0 : 0 ≤ errs) (h1 : errs < 4611686018427387000) (t0 t1 : Int) (c : Nat) (t2 : Int) (it0 : I64 t0) (it1 : I64 t1) (it2 : I64 t2) (hc : c < 128) (hp : p < bs.length) (hb : bt bs p = c) (hne : c ≠ 61) :
    Calls Tryf.prog 11 #[.pointer (some ⟨S, 0, none⟩), .int .i64 t0, .int .i64 t1, .int .i32 c, .int .i64 t2] w fun e w' => e = .returned (.int .i64 t2) ∧ Live w0 w' S bs semi mode (p + 1) (errs + nxErr bs (p + 1)) := by
  have C := Lib.hid (sw3_two h h0 h1 t0 t1 c t2 hc hp hb hne)
  clear h
  have bt0 := it0.1
  have dt0 := it0.2
  have bt1 := it1.1
  have dt1 := it1.2
  have bt2 := it2.1
  have dt2 := it2.2
  go_enter Tryf.func11, Tryf.ntmps11
  go_wp2_with fail
  refine C.out.mono ?_
  rintro e w1 ⟨rfl, hL⟩
  have HL := Lib.hid hL
  clear hL C
  go_wp2_with fail
  go_ret
  exact ⟨rfl, HL.out⟩
set_option maxHeartbeats 1000000 in
theorem sw4_eq {w0 : Base} {w : World} {S : Nat} {bs : List UInt8} {semi : Bool} {mode : Int} {p : Nat} {errs : Int} (h : Live w0 w S bs semi mode p errs) (h0 : 0 ≤ errs) (h1 : errs < 4611686018427387000) (t0 t1 : Int) (c : Nat) (t2 t3 : Int) (hp : p < bs.length) (hb : bt bs p = 61) :
    Calls Tryf.prog 18 #[.pointer (some ⟨S, 0, none⟩), .int .i64 t0, .int .i64 t1, .int .i32 c, .int .i64 t2, .int .i64 t3] w fun e w' => e = .returned (.int .i64 t1) ∧ Live w0 w' S bs semi mode (p + 1) (errs + nxErr bs (p + 1)) := by
  have c2 := h.ch
  have hx := nx_ascii hp (by omega)
  rw [hx.1, hb] at c2
  have C := Lib.hid (live_next h h0 (by omega))
  rw [hx.2] at C
  clear h hx hb
  go_enter Tryf.func18, Tryf.ntmps18
  go_wp2_with fail
  refine C.out.mono ?_
  rintro e w1 ⟨rfl, hL, _⟩
  have HL := Lib.hid hL
  clear hL C
  go_wp2_with fail
  go_ret
  exact ⟨rfl, HL.out⟩
set_option maxHeartbeats 1000000 in
theorem sw4_no {w0 : Base} {w : World} {S : Nat} {bs : List UInt8} {semi : Bool} {mode : Int} {p : Nat} {errs : Int} (h : Live w0 w S bs semi mode p errs) (h0 : 0 ≤ errs) (h1 : errs < 4611686018427387000) (t0 t1 : Int) (c : Nat) (t2 t3 : Int) (hc : c < 128) (hb : ¬ (p < bs.length ∧ bt bs p = 61)) (hb2 : ¬ (p < bs.length ∧ bt bs p = c)) :
    Calls Tryf.prog 18 #[.pointer (some ⟨S, 0, none⟩), .int .i64 t0, .int .i64 t1, .int .i32 c, .int .i64 t2, .int .i64 t3] w fun e w' => e = .returned (.int .i64 t0) ∧ w = w' := by
  have c2 := h.ch
  have k1 : ((nxCh bs p : Int) == 61) = false := by
    rw [beq_eq_false_iff_ne]
    exact fun hh => hb ((nxCh_eq (by omega)).1 hh)
  have k2 : ((nxCh bs p : Int) == (c : Int)) = false := by
    rw [beq_eq_false_iff_ne]
    exact fun hh => hb2 ((nxCh_eq hc).1 hh)
  clear h hb hb2
  go_enter Tryf.func18, Tryf.ntmps18
  go_wp2_with fail
  go_ret
  exact ⟨rfl, rfl⟩
set_option maxHeartbeats 1000000 in
theorem sw4_two {w0 : Base} {w : World} {S : Nat} {bs : List UInt8} {semi : Bool} {mode : Int} {p : Nat} {errs : Int} (h : Live w0 w S bs semi mode p errs) (h0 : 0 ≤ errs) (h1 : errs < 4611686018427387000) (t0 t1 : Int) (c : Nat) (t2 t3 : Int) (hc : c < 128) (hp : p < bs.length) (hb : bt bs p = c) (hne : c ≠ 61) (hb2 : ¬ (p + 1 < bs.length ∧ bt bs (p + 1) = 61)) :
    Calls Tryf.prog 18 #[.pointer (some ⟨S, 0, none⟩), .int .i64 t0, .int .i64 t1, .int .i32 c, .int .i64 t2, .int .i64 t3] w fun e w' => e = .returned (.int .i64 t2) ∧ Live w0 w' S bs semi mode (p + 1) (errs + nxErr bs (p + 1)) := by
  have c2 := h.ch
  have hx := nx_ascii hp (by omega)
  rw [hx.1, hb] at c2
  have C := Lib.hid (live_next h h0 (by omega))
  rw [hx.2] at C
  have k1 : ((c : Int) == 61) = false := by simp; omega
  have k2 : ((c : Int) == (c : Int)) = true := by simp
  clear h hx hb
  go_enter Tryf.func18, Tryf.ntmps18
  go_wp2_with fail
  refine C.out.mono ?_
  rintro e w1 ⟨rfl, hL, _⟩
  have d2 := hL.ch
  have k3 : ((nxCh bs (p + 1) : Int) == 61) = false := by
    rw [beq_eq_false_iff_ne]
    exact fun hh => hb2 ((nxCh_eq (by omega)).1 hh)
  have HL := Lib.hid hL
  clear hL C c2 hb2
  go_wp2_with fail
  go_ret
  exact ⟨rfl, HL.out⟩
set_option maxHeartbeats 1000000 in
theorem sw4_three {w0 : Base} {w : World} {S : Nat} {bs : List UInt8} {semi : Bool} {mode : Int} {p : Nat} {errs : Int} (h : Live w0 w S bs semi mode p errs) (h0 : 0 ≤ errs) (h1 : errs < 4611686018427387000) (t0 t1 : Int) (c : Nat) (t2 t3 : Int) (hc : c < 128) (hp : p < bs.length) (hb : bt bs p = c) (hne : c ≠ 61) (hp2 : p + 1 < bs.length) (hb2 : bt bs (p + 1) = 61) :
    Calls Tryf.prog 18 #[.pointer (some ⟨S, 0, none⟩), .int .i64 t0, .int .i64 t1, .int .i32 c, .int .i64 t2, .int .i64 t3] w fun e w' => e = .returned (.int .i64 t3) ∧ Live w0 w' S bs semi mode (p + 2) (errs + nxErr bs (p + 1) + nxErr bs (p + 2)) := by
  have c2 := h.ch
  have hx := nx_ascii hp (by omega)
  rw [hx.1, hb] at c2
  have C := Lib.hid (live_next h h0 (by omega))
  rw [hx.2] at C
  have k1 : ((c : Int) == 61) = false := by simp; omega
  have k2 : ((c : Int) == (c : Int)) = true := by simp
  clear h hx hb
  go_enter Tryf.func18, Tryf.ntmps18
  go_wp2_with fail
  refine C.out.mono ?_
  rintro e w1 ⟨rfl, hL, _⟩
  have hy := nx_ascii hp2 (by omega)
  have hne1 := nxErr_le (bs := bs) (p := p + 1)
  have d2 := hL.ch
  rw [hy.1, hb2] at d2
  have C2 := Lib.hid (live_next hL (by omega) (by omega))
  rw [hy.2] at C2
  clear hL C c2 hb2 hy hne1
  go_wp2_with fail
  refine C2.out.mono ?_
  rintro e w2 ⟨rfl, hL2, _⟩
  have HL := Lib.hid hL2
  clear hL2 C2
  go_wp2_with fail
  go_ret
  exact ⟨rfl, HL.out⟩
set_option maxHeartbeats 1000000 in
theorem door4_eq {w0 : Base} {w : World} {S : Nat} {bs : List UInt8} {semi : Bool} {mode : Int} {p : Nat} {errs : Int} (h : Live w0 w S bs semi mode p errs) (h0 : 0 ≤ errs) (h1 : errs < 4611686018427387000) (t0 t1 : Int) (c : Nat) (t2 t3 : Int) (it0 : I64 t0) (it1 : I64 t1) (it2 : I64 t2) (it3 : I64 t3) (hp : p < bs.length) (hb : bt bs p = 61) :
    Calls Tryf.prog 13 #[.pointer (some ⟨S, 0, none⟩), .int .i64 t0, .int .i64 t1, .int .i32 c, .int .i64 t2, .int .i64 t3] w fun e w' => e = .returned (.int .i64 t1) ∧ Live w0 w' S bs semi mode (p + 1) (errs + nxErr bs (p + 1)) := by
  have C := Lib.hid (sw4_eq h h0 h1 t0 t1 c t2 t3 hp hb)
  clear h
  have bt0 := it0.1
  have dt0 := it0.2
  have bt1 := it1.1
  have dt1 := it1.2
  have bt2 := it2.1
  have dt2 := it2.2
  have bt3 := it3.1
  have dt3 := it3.2
  go_enter Tryf.func13, Tryf.ntmps13
  go_wp2_with fail
  refine C.out.mono ?_
  rintro e w1 ⟨rfl, hL⟩
  have HL := Lib.hid hL
  clear hL C
  go_wp2_with fail
  go_ret
  exact ⟨rfl, HL.out⟩
set_option maxHeartbeats 1000000 in
theorem door4_no {w0 : Base} {w : World} {S : Nat} {bs : List UInt8} {semi : Bool} {mode : Int} {p : Nat} {errs : Int} (h : Live w0 w S bs semi mode p errs) (h0 : 0 ≤ errs) (h1 : errs < 4611686018427387000) (t0 t1 : Int) (c : Nat) (t2 t3 : Int) (it0 : I64 t0) (it1 : I64 t1) (it2 : I64 t2) (it3 : I64 t3) (hc : c < 128) (hb : ¬ (p < bs.length ∧ bt bs p = 61)) (hb2 : ¬ (p < bs.length ∧ bt bs p = c)) :
    Calls Tryf.prog 13 #[.pointer (some ⟨S, 0, none⟩), .int .i64 t0, .int .i64 t1, .int .i32 c, .int .i64 t2, .int .i64 t3] w fun e w' => e = .returned (.int .i64 t0) ∧ w = w' := by
  have C := Lib.hid (sw4_no h h0 h1 t0 t1 c t2 t3 hc hb hb2)
  clear h
  have bt0 := it0.1
  have dt0 := it0.2
  have bt1 := it1.1
  have dt1 := it1.2
  have bt2 := it2.1
  have dt2 := it2.2
  have bt3 := it3.1
  have dt3 := it3.2
  go_enter Tryf.func13, Tryf.ntmps13
  go_wp2_with fail
  refine C.out.mono ?_
  rintro e w1 ⟨rfl, rfl⟩
  clear C
  go_wp2_with fail
  go_ret
  exact ⟨rfl, rfl⟩
set_option maxHeartbeats 1000000 in
theorem door4_two {w0 : Base} {w : World} {S : Nat} {bs : List UInt8} {semi : Bool} {mode : Int} {p : Nat} {errs : Int} (h : Live w0 w S bs semi mode p errs) (h0 : 0 ≤ errs) (h1 : errs < 4611686018427387000) (t0 t1 : Int) (c : Nat) (t2 t3 : Int) (it0 : I64 t0) (it1 : I64 t1) (it2 : I64 t2) (it3 : I64 t3) (hc : c < 128) (hp : p < bs.length) (hb : bt bs p = c) (hne : c ≠ 61) (hb2 : ¬ (p + 1 < bs.length ∧ bt bs (p + 1) = 61)) :
    Calls Tryf.prog 13 #[.pointer (some ⟨S, 0, none⟩), .int .i64 t0, .int .i64 t1, .int .i32 c, .int .i64 t2, .int .i64 t3] w fun e w' => e = .returned (.int .i64 t2) ∧ Live w0 w' S bs semi mode (p + 1) (errs + nxErr bs (p + 1)) := by
  have C := Lib.hid (sw4_two h h0 h1 t0 t1 c t2 t3 hc hp hb hne hb2)
  clear h
  have bt0 := it0.1
  have dt0 := it0.2
  have bt1 := it1.1
  have dt1 := it1.2
  have bt2 := it2.1
  have dt2 := it2.2
  have bt3 := it3.1
  have dt3 := it3.2
  go_enter Tryf.func13, Tryf.ntmps13
  go_wp2_with fail
  refine C.out.mono ?_
  rintro e w1 ⟨rfl, hL⟩
  have HL := Lib.hid hL
  clear hL C
  go_wp2_with fail
  go_ret
  exact ⟨rfl, HL.out⟩
set_option maxHeartbeats 1000000 in
theorem door4_three {w0 : Base} {w : World} {S : Nat} {bs : List UInt8} {semi : Bool} {mode : Int} {p : Nat} {errs : Int} (h : Live w0 w S bs semi mode p errs) (h0 : 0 ≤ errs) (h1 : errs < 4611686018427387000) (t0 t1 : Int) (c : Nat) (t2 t3 : Int) (it0 : I64 t0) (it1 : I64 t1) (it2 : I64 t2) (it3 : I64 t3) (hc : c < 128) (hp : p < bs.length) (hb : bt bs p = c) (hne : c ≠ 61) (hp2 : p + 1 < bs.length) (hb2 : bt bs (p + 1) = 61) :
    Calls Tryf.prog 13 #[.pointer (some ⟨S, 0, none⟩), .int .i64 t0, .int .i64 t1, .int .i32 c, .int .i64 t2, .int .i64 t3] w fun e w' => e = .returned (.int .i64 t3) ∧ Live w0 w' S bs semi mode (p + 2) (errs + nxErr bs (p + 1) + nxErr bs (p + 2)) := by
  have C := Lib.hid (sw4_three h h0 h1 t0 t1 c t2 t3 hc hp hb hne hp2 hb2)
  clear h
  have bt0 := it0.1
  have dt0 := it0.2
  have bt1 := it1.1
  have dt1 := it1.2
  have bt2 := it2.1
  have dt2 := it2.2
  have bt3 := it3.1
  have dt3 := it3.2
  go_enter Tryf.func13, Tryf.ntmps13
  go_wp2_with fail
  refine C.out.mono ?_
  rintro e w1 ⟨rfl, hL⟩
  have HL := Lib.hid hL
  clear hL C
  go_wp2_with fail
  go_ret
  exact ⟨rfl, HL.out⟩
end Go.Proofs.YtebahaclnbjnoaaFmt.Core
