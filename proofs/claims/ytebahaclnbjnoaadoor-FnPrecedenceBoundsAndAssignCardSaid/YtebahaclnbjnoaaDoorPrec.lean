/-
  Proved: the walk of the law FnPrecedenceBoundsAndAssign: it returns true for every int.
  Conditions: the tables hold what the row lists.
-/
import Derived.Test.YtebahaclnbjnoaaDoorInj
namespace Go.Proofs.YtebahaclnbjnoaaDoor.Tok
open Go.ChangeShapes Go.WideShapes Go.ChangeAt Go.RowKit Go.Shelf Go.Lib
set_option linter.unusedVariables false

/-- Precedence, by the token's number. -/
def precT : List Int := [4, 4, 5, 5, 5, 5, 4, 4, 5, 5, 5, 0, 0, 0, 0, 0, 0, 0, 0, 0, 0, 0, 2, 1, 0, 0, 3, 3, 3, 0, 0, 3, 3, 3]
def prec (n : Int) : Int := if 11 ≤ n ∧ n ≤ 44 then precT.getD (n - 11).toNat 0 else 0
theorem precT_bounds : ∀ i : Fin 34, 0 ≤ precT.getD i.val 0 ∧ precT.getD i.val 0 ≤ 5 := by decide
theorem precT_pos : ∀ i : Fin 11, 1 ≤ precT.getD i.val 0 := by decide
theorem precT_zero : ∀ i : Fin 11, precT.getD (i.val + 11) 0 = 0 := by decide
theorem prec_bounds (n : Int) : 0 ≤ prec n ∧ prec n ≤ 5 := by
  unfold prec
  split
  · exact precT_bounds ⟨(n - 11).toNat, by omega⟩
  · omega
theorem prec_pos {n : Int} (h : 11 ≤ n ∧ n ≤ 21) : 1 ≤ prec n := by
  unfold prec
  rw [if_pos (by omega)]
  exact precT_pos ⟨(n - 11).toNat, by omega⟩
theorem prec_zero {n : Int} (h : 11 ≤ n ∧ n ≤ 21) : prec (n + 11) = 0 := by
  unfold prec
  rw [if_pos (by omega)]
  have := precT_zero ⟨(n - 11).toNat, by omega⟩
  rw [show (n + 11 - 11).toNat = (n - 11).toNat + 11 by omega]
  exact this
theorem prec_out {n : Int} (h : n < 11 ∨ 44 < n) : prec n = 0 := by
  unfold prec
  rw [if_neg (by omega)]

set_option maxHeartbeats 4000000 in
/-- (token.Token).Precedence (function 9), for every int. -/
theorem prec_any (n : Int) (w : World) : Calls Tryd.prog 9 #[.int .i64 n] w fun e w' => e = .returned (.int .i64 (prec n)) ∧ w = w' := by
  by_cases h : n < 11 ∨ 44 < n
  · rw [prec_out h]
    rcases h with h | h
    · go_enter Tryd.func9, Tryd.ntmps9
      go_wp2
      go_ret
      exact ⟨rfl, rfl⟩
    · go_enter Tryd.func9, Tryd.ntmps9
      go_wp2
      go_ret
      exact ⟨rfl, rfl⟩
  · obtain ⟨k, hk, rfl⟩ : ∃ k : Nat, k < 34 ∧ n = ((k + 11 : Nat) : Int) := ⟨(n - 11).toNat, by omega, by omega⟩
    clear h
    have each : ∀ k : Nat, k < 34 → Calls Tryd.prog 9 #[.int .i64 ((k + 11 : Nat) : Int)] w fun e w' => e = .returned (.int .i64 (prec ((k + 11 : Nat) : Int))) ∧ w = w' := by
      intro k hk
      match k, hk with
      | 0, _ => (have e : prec ((0 + 11 : Nat) : Int) = 4 := rfl); rw [e]; go_enter Tryd.func9, Tryd.ntmps9; go_wp2; go_ret; exact ⟨rfl, rfl⟩
      | 1, _ => (have e : prec ((1 + 11 : Nat) : Int) = 4 := rfl); rw [e]; go_enter Tryd.func9, Tryd.ntmps9; go_wp2; go_ret; exact ⟨rfl, rfl⟩
      | 2, _ => (have e : prec ((2 + 11 : Nat) : Int) = 5 := rfl); rw [e]; go_enter Tryd.func9, Tryd.ntmps9; go_wp2; go_ret; exact ⟨rfl, rfl⟩
      | 3, _ => (have e : prec ((3 + 11 : Nat) : Int) = 5 := rfl); rw [e]; go_enter Tryd.func9, Tryd.ntmps9; go_wp2; go_ret; exact ⟨rfl, rfl⟩
      | 4, _ => (have e : prec ((4 + 11 : Nat) : Int) = 5 := rfl); rw [e]; go_enter Tryd.func9, Tryd.ntmps9; go_wp2; go_ret; exact ⟨rfl, rfl⟩
      | 5, _ => (have e : prec ((5 + 11 : Nat) : Int) = 5 := rfl); rw [e]; go_enter Tryd.func9, Tryd.ntmps9; go_wp2; go_ret; exact ⟨rfl, rfl⟩
      | 6, _ => (have e : prec ((6 + 11 : Nat) : Int) = 4 := rfl); rw [e]; go_enter Tryd.func9, Tryd.ntmps9; go_wp2; go_ret; exact ⟨rfl, rfl⟩
      | 7, _ => (have e : prec ((7 + 11 : Nat) : Int) = 4 := rfl); rw [e]; go_enter Tryd.func9, Tryd.ntmps9; go_wp2; go_ret; exact ⟨rfl, rfl⟩
      | 8, _ => (have e : prec ((8 + 11 : Nat) : Int) = 5 := rfl); rw [e]; go_enter Tryd.func9, Tryd.ntmps9; go_wp2; go_ret; exact ⟨rfl, rfl⟩
      | 9, _ => (have e : prec ((9 + 11 : Nat) : Int) = 5 := rfl); rw [e]; go_enter Tryd.func9, Tryd.ntmps9; go_wp2; go_ret; exact ⟨rfl, rfl⟩
      | 10, _ => (have e : prec ((10 + 11 : Nat) : Int) = 5 := rfl); rw [e]; go_enter Tryd.func9, Tryd.ntmps9; go_wp2; go_ret; exact ⟨rfl, rfl⟩
      | 11, _ => (have e : prec ((11 + 11 : Nat) : Int) = 0 := rfl); rw [e]; go_enter Tryd.func9, Tryd.ntmps9; go_wp2; go_ret; exact ⟨rfl, rfl⟩
      | 12, _ => (have e : prec ((12 + 11 : Nat) : Int) = 0 := rfl); rw [e]; go_enter Tryd.func9, Tryd.ntmps9; go_wp2; go_ret; exact ⟨rfl, rfl⟩
      | 13, _ => (have e : prec ((13 + 11 : Nat) : Int) = 0 := rfl); rw [e]; go_enter Tryd.func9, Tryd.ntmps9; go_wp2; go_ret; exact ⟨rfl, rfl⟩
      | 14, _ => (have e : prec ((14 + 11 : Nat) : Int) = 0 := rfl); rw [e]; go_enter Tryd.func9, Tryd.ntmps9; go_wp2; go_ret; exact ⟨rfl, rfl⟩
      | 15, _ => (have e : prec ((15 + 11 : Nat) : Int) = 0 := rfl); rw [e]; go_enter Tryd.func9, Tryd.ntmps9; go_wp2; go_ret; exact ⟨rfl, rfl⟩
      | 16, _ => (have e : prec ((16 + 11 : Nat) : Int) = 0 := rfl); rw [e]; go_enter Tryd.func9, Tryd.ntmps9; go_wp2; go_ret; exact ⟨rfl, rfl⟩
      | 17, _ => (have e : prec ((17 + 11 : Nat) : Int) = 0 := rfl); rw [e]; go_enter Tryd.func9, Tryd.ntmps9; go_wp2; go_ret; exact ⟨rfl, rfl⟩
      | 18, _ => (have e : prec ((18 + 11 : Nat) : Int) = 0 := rfl); rw [e]; go_enter Tryd.func9, Tryd.ntmps9; go_wp2; go_ret; exact ⟨rfl, rfl⟩
      | 19, _ => (have e : prec ((19 + 11 : Nat) : Int) = 0 := rfl); rw [e]; go_enter Tryd.func9, Tryd.ntmps9; go_wp2; go_ret; exact ⟨rfl, rfl⟩
      | 20, _ => (have e : prec ((20 + 11 : Nat) : Int) = 0 := rfl); rw [e]; go_enter Tryd.func9, Tryd.ntmps9; go_wp2; go_ret; exact ⟨rfl, rfl⟩
      | 21, _ => (have e : prec ((21 + 11 : Nat) : Int) = 0 := rfl); rw [e]; go_enter Tryd.func9, Tryd.ntmps9; go_wp2; go_ret; exact ⟨rfl, rfl⟩
      | 22, _ => (have e : prec ((22 + 11 : Nat) : Int) = 2 := rfl); rw [e]; go_enter Tryd.func9, Tryd.ntmps9; go_wp2; go_ret; exact ⟨rfl, rfl⟩
      | 23, _ => (have e : prec ((23 + 11 : Nat) : Int) = 1 := rfl); rw [e]; go_enter Tryd.func9, Tryd.ntmps9; go_wp2; go_ret; exact ⟨rfl, rfl⟩
      | 24, _ => (have e : prec ((24 + 11 : Nat) : Int) = 0 := rfl); rw [e]; go_enter Tryd.func9, Tryd.ntmps9; go_wp2; go_ret; exact ⟨rfl, rfl⟩
      | 25, _ => (have e : prec ((25 + 11 : Nat) : Int) = 0 := rfl); rw [e]; go_enter Tryd.func9, Tryd.ntmps9; go_wp2; go_ret; exact ⟨rfl, rfl⟩
      | 26, _ => (have e : prec ((26 + 11 : Nat) : Int) = 3 := rfl); rw [e]; go_enter Tryd.func9, Tryd.ntmps9; go_wp2; go_ret; exact ⟨rfl, rfl⟩
      | 27, _ => (have e : prec ((27 + 11 : Nat) : Int) = 3 := rfl); rw [e]; go_enter Tryd.func9, Tryd.ntmps9; go_wp2; go_ret; exact ⟨rfl, rfl⟩
      | 28, _ => (have e : prec ((28 + 11 : Nat) : Int) = 3 := rfl); rw [e]; go_enter Tryd.func9, Tryd.ntmps9; go_wp2; go_ret; exact ⟨rfl, rfl⟩
      | 29, _ => (have e : prec ((29 + 11 : Nat) : Int) = 0 := rfl); rw [e]; go_enter Tryd.func9, Tryd.ntmps9; go_wp2; go_ret; exact ⟨rfl, rfl⟩
      | 30, _ => (have e : prec ((30 + 11 : Nat) : Int) = 0 := rfl); rw [e]; go_enter Tryd.func9, Tryd.ntmps9; go_wp2; go_ret; exact ⟨rfl, rfl⟩
      | 31, _ => (have e : prec ((31 + 11 : Nat) : Int) = 3 := rfl); rw [e]; go_enter Tryd.func9, Tryd.ntmps9; go_wp2; go_ret; exact ⟨rfl, rfl⟩
      | 32, _ => (have e : prec ((32 + 11 : Nat) : Int) = 3 := rfl); rw [e]; go_enter Tryd.func9, Tryd.ntmps9; go_wp2; go_ret; exact ⟨rfl, rfl⟩
      | 33, _ => (have e : prec ((33 + 11 : Nat) : Int) = 3 := rfl); rw [e]; go_enter Tryd.func9, Tryd.ntmps9; go_wp2; go_ret; exact ⟨rfl, rfl⟩
      | k + 34, hk => omega
    exact each k hk

theorem compound : ∀ i : Fin 11, tokStr ((i.val + 22 : Nat) : Int) = tokStr ((i.val + 11 : Nat) : Int) ++ [61] := by decide +kernel

theorem bytes_cat (l : List UInt8) : ((⟨l.toArray⟩ : ByteArray) ++ { data := #[61] }) = ⟨(l ++ [61]).toArray⟩ := by
  apply ByteArray.ext
  simp

theorem tables5 {w : World} (hL : laidMet Tryd.prog Rows.fnPrecedenceBoundsAndAssignRow.laid w) : TabIs Tryd.prog w "internal/strconv.uint64pow10" .u64 pow10Tab ∧ Names w := tables hL

set_option maxHeartbeats 1000000 in
theorem walkPrec (n : Int) (wn : (Lit.int .i64 n).wf = true) (w : World) (hL : laidMet Tryd.prog Rows.fnPrecedenceBoundsAndAssignRow.laid w) :
    Calls Tryd.prog 5 #[.int .i64 n] w fun e w' => e = .returned (.bool true) ∧ Below w.heap.size w w' := by
  obtain ⟨n0, n1⟩ := int_bounds wn
  obtain ⟨ht, hN⟩ := tables5 hL
  clear hL wn
  have pb := prec_bounds n
  have c := Lib.hid (prec_any n w)
  by_cases h : n < 11 ∨ 44 < n
  · rw [prec_out h] at c
    clear ht hN pb
    rcases h with h | h
    · go_enter Tryd.func5, Tryd.ntmps5
      go_wp2_with fail
      refine c.out.mono ?_
      rintro e w1 ⟨rfl, rfl⟩
      go_wp2_with fail
      go_ret
      exact ⟨rfl, Below.refl _ _⟩
    · have d : decide (n ≤ 21) = false := decide_eq_false (by omega)
      go_enter Tryd.func5, Tryd.ntmps5
      go_wp2_with fail
      refine c.out.mono ?_
      rintro e w1 ⟨rfl, rfl⟩
      go_wp2_with fail
      go_ret
      exact ⟨rfl, Below.refl _ _⟩
  · by_cases h2 : n ≤ 21
    · have hp := prec_pos (n := n) (by omega)
      have hz := prec_zero (n := n) (by omega)
      have d := Lib.hid (prec_any (n + 11) w)
      rw [hz] at d
      have e1 := str_any (n + 11) w (by omega) (by omega) ht hN
      have e2 : ∀ w1, Below w.heap.size w w1 → Calls Tryd.prog 6 #[.int .i64 n] w1 fun e w' => e = .returned (.string ⟨(tokStr n).toArray⟩) ∧ Below w1.heap.size w1 w' := fun w1 hb1 =>
        str_any n w1 n0 n1 (TabIs_below (g := 4) (by kernel_rfl) ht hb1) (hN.below hb1)
      have hc : tokStr (n + 11) = tokStr n ++ [61] := by
        have := compound ⟨(n - 11).toNat, by omega⟩
        simp only at this
        rw [show (((n - 11).toNat + 22 : Nat) : Int) = n + 11 by omega, show (((n - 11).toNat + 11 : Nat) : Int) = n by omega] at this
        exact this
      have hlen : (tokStr n).length ≤ 100 := by
        have hi : ∀ i : Fin 11, (tokStr ((i.val + 11 : Nat) : Int)).length ≤ 100 := by decide +kernel
        have := hi ⟨(n - 11).toNat, by omega⟩
        simp only at this
        rw [show (((n - 11).toNat + 11 : Nat) : Int) = n by omega] at this
        exact this
      rw [hc] at e1
      have E1 := Lib.hid e1
      have E2 := Lib.hid e2
      clear e1 e2 ht hN hz hc
      generalize tokStr n = s at *
      generalize prec n = p at *
      have q0 : ((p : Int) == 0) = false := by simp; omega
      go_enter Tryd.func5, Tryd.ntmps5
      go_wp2_with fail
      refine c.out.mono ?_
      rintro e w1 ⟨rfl, rfl⟩
      go_wp2_with (first | (go_at_call 10; go_in) | (go_at_call 11; go_in) | (go_at_call 12; go_in))
      refine d.out.mono ?_
      rintro e w1 ⟨rfl, rfl⟩
      go_wp2_with fail
      refine E1.out.mono ?_
      rintro e w1 ⟨rfl, hb1⟩
      go_wp2_with fail
      refine (E2.out w1 hb1).mono ?_
      rintro e w2 ⟨rfl, hb2⟩
      have hq : (!((s ++ [61]) == (({ data := s.toArray } : ByteArray) ++ { data := #[61] }).toList)) = false := by
        rw [bytes_cat, ByteArray.toList_eq]
        simp
      have HB := Lib.hid hb1
      have HB2 := Lib.hid hb2
      clear hb1 hb2
      go_wp2_with fail
      go_ret
      exact ⟨rfl, HB.out.trans (HB2.out.mono HB.out.size)⟩
    · have d2 : decide (n ≤ 21) = false := decide_eq_false (by omega)
      clear ht hN
      generalize prec n = p at *
      go_enter Tryd.func5, Tryd.ntmps5
      go_wp2_with fail
      refine c.out.mono ?_
      rintro e w1 ⟨rfl, rfl⟩
      by_cases hp : 0 < p
      · go_wp2_with (first | (go_at_call 10; go_in) | (go_at_call 11; go_in) | (go_at_call 12; go_in))
        go_ret
        exact ⟨rfl, Below.refl _ _⟩
      · go_wp2_with fail
        go_ret
        exact ⟨rfl, Below.refl _ _⟩
end Go.Proofs.YtebahaclnbjnoaaDoor.Tok
