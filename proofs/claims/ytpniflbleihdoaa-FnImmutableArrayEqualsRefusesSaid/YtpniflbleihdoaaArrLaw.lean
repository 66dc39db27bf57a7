/-
  Proved: the walks of FnImmutableArrayIsFalsyAgrees and FnImmutableArrayEqualsRefuses: they return true at every argument.
  Conditions: none.
-/
import Derived.Test.YtpniflbleihdoaaArrCopy
namespace Go.Proofs.Ytpniflbleihdoaa.Core
open Go.ChangeShapes Go.WideShapes Go.ChangeAt Go.RowKit
set_option linter.unusedVariables false

theorem bytesF_yes (A : Option Addr) (n cap : Nat) (w : World) (h : n ≤ 1048576) : Calls Try.prog 5 #[.slice A n cap] w fun e w' => e = .returned (.bool true) ∧ w = w' := by
  have d : decide ((1048576 : Int) < (n : Int)) = false := decide_eq_false (by omega)
  go_enter Try.func5, Try.ntmps5
  go_wp2_with fail
  go_ret
  exact ⟨rfl, rfl⟩
theorem bytesF_no (A : Option Addr) (n cap : Nat) (w : World) (h : 1048576 < n) : Calls Try.prog 5 #[.slice A n cap] w fun e w' => e = .returned (.bool false) ∧ w = w' := by
  have d : decide ((1048576 : Int) < (n : Int)) = true := decide_eq_true (by omega)
  go_enter Try.func5, Try.ntmps5
  go_wp2_with fail
  go_ret
  exact ⟨rfl, rfl⟩

theorem below_one (w : World) (o : Obj) : Below w.heap.size w (w.alloc o) := (Below.refl _ _).alloc (Nat.le_refl _) o
theorem only_one (w : World) (o : Obj) : Only w (w.alloc o) [] := (Only.refl w []).fresh o

set_option maxHeartbeats 2000000 in
theorem walkF0 (A : Option Addr) (n cap : Nat) (zs : List Int) (w : World) (hs : Nums w A n zs) (hn : n ≤ 9223372036854775807) :
    Calls Try.prog 3 #[.slice A n cap] w fun e w' => e = .returned (.bool true) ∧ Below w.heap.size w w' := by
  by_cases h20 : n ≤ 1048576
  · have B := Lib.hid (bytesF_yes A n cap w h20)
    by_cases h17 : n ≤ 131072
    · have MK := Lib.hid (make_any A n cap zs w hs h17)
      have d0 : decide ((131072 : Int) < (n : Int)) = false := decide_eq_false (by omega)
      clear hs
      have me := meth_falsy
      by_cases hz : n = 0
      · subst hz
        have e0 : (((0 : Nat) : Int) == 0) = true := rfl
        go_enter Try.func3, Try.ntmps3
        go_wp2_with (first | (go_at_call 5; refine B.out.mono ?_; rintro e w1 ⟨rfl, rfl⟩))
        refine MK.out.mono ?_
        rintro e w1 ⟨rfl, ho1, hw1, hl1⟩
        have O1 := Lib.hid ho1
        have W1 := Lib.hid hw1
        clear ho1 hw1 MK B
        have CPY := fun (X : World) (hX : Only w1 X []) (hc : X.cell? ⟨w1.heap.size, 0, none⟩ = some (.slice (some ⟨w.heap.size, 0, none⟩) 0 0)) => Lib.hid (copy_any w1.heap.size w.heap.size 0 zs X hc (O1.out.keep hX) h17)
        go_wp2_with (first | (go_at_call 7; refine (falsyI_any w1.heap.size 0 0 (some ⟨w.heap.size, 0, none⟩) _ (by go_simp)).mono ?_; rintro e w2 ⟨rfl, rfl⟩) | (go_at_call 8; with_reducible refine (eqZeroI w1.heap.size (w1.heap.size + 1) 0 0 (some ⟨w.heap.size, 0, none⟩) none _ (by go_simp) (by go_simp)).mono ?_; rintro e w2 ⟨rfl, rfl⟩) | (go_at_call 8; with_reducible refine (eqZeroA w1.heap.size (w1.heap.size + 2) 0 0 (some ⟨w.heap.size, 0, none⟩) none _ (by go_simp) (by go_simp)).mono ?_; rintro e w2 ⟨rfl, rfl⟩))
        refine (CPY _ (((only_one _ _).fresh _).fresh _) (by go_simp)).out.mono ?_
        rintro e w2 ⟨b, A2, c2, rfl, hc2, hb2⟩
        have B2 := Lib.hid ((W1.out.next (((only_one _ _).fresh _).fresh _) (by simp)).next (Only.ofBelow hb2 []) (by simp))
        clear hb2 CPY
        go_wp2_with (first | (go_at_call 36; refine (falsyA_any b 0 c2 A2 w2 hc2).mono ?_; rintro e w3 ⟨rfl, rfl⟩))
        go_ret
        exact ⟨by first | rfl | (simp; done) | (simp; omega), B2.out.below (Nat.le_refl _) (by simp)⟩
      · have e0 : ((n : Int) == 0) = false := by simp; omega
        go_enter Try.func3, Try.ntmps3
        go_wp2_with (first | (go_at_call 5; refine B.out.mono ?_; rintro e w1 ⟨rfl, rfl⟩))
        refine MK.out.mono ?_
        rintro e w1 ⟨rfl, ho1, hw1, hl1⟩
        have O1 := Lib.hid ho1
        have W1 := Lib.hid hw1
        clear ho1 hw1 MK B
        have CPY := fun (X : World) (hX : Only w1 X []) (hc : X.cell? ⟨w1.heap.size, 0, none⟩ = some (.slice (some ⟨w.heap.size, 0, none⟩) n n)) => Lib.hid (copy_any w1.heap.size w.heap.size n zs X hc (O1.out.keep hX) h17)
        go_wp2_with (first | (go_at_call 7; refine (falsyI_any w1.heap.size n n (some ⟨w.heap.size, 0, none⟩) _ (by go_simp)).mono ?_; rintro e w2 ⟨rfl, rfl⟩) | (go_at_call 8; with_reducible refine (eqLenI w1.heap.size (w1.heap.size + 1) n 0 n 0 (some ⟨w.heap.size, 0, none⟩) none _ (by go_simp) (by go_simp) hz).mono ?_; rintro e w2 ⟨rfl, rfl⟩) | (go_at_call 8; with_reducible refine (eqLenA w1.heap.size (w1.heap.size + 2) n 0 n 0 (some ⟨w.heap.size, 0, none⟩) none _ (by go_simp) (by go_simp) hz).mono ?_; rintro e w2 ⟨rfl, rfl⟩))
        refine (CPY _ (((only_one _ _).fresh _).fresh _) (by go_simp)).out.mono ?_
        rintro e w2 ⟨b, A2, c2, rfl, hc2, hb2⟩
        have B2 := Lib.hid ((W1.out.next (((only_one _ _).fresh _).fresh _) (by simp)).next (Only.ofBelow hb2 []) (by simp))
        clear hb2 CPY
        go_wp2_with (first | (go_at_call 36; refine (falsyA_any b n c2 A2 w2 hc2).mono ?_; rintro e w3 ⟨rfl, rfl⟩))
        go_ret
        exact ⟨by first | rfl | (simp; done) | (simp; omega), B2.out.below (Nat.le_refl _) (by simp)⟩
    · have d0 : decide ((131072 : Int) < (n : Int)) = true := decide_eq_true (by omega)
      clear hs
      go_enter Try.func3, Try.ntmps3
      go_wp2_with (first | (go_at_call 5; refine B.out.mono ?_; rintro e w1 ⟨rfl, rfl⟩))
      go_ret
      exact ⟨rfl, Below.refl _ _⟩
  · have B := Lib.hid (bytesF_no A n cap w (by omega))
    clear hs
    go_enter Try.func3, Try.ntmps3
    go_wp2_with (first | (go_at_call 5; refine B.out.mono ?_; rintro e w1 ⟨rfl, rfl⟩))
    go_ret
    exact ⟨rfl, Below.refl _ _⟩
end Go.Proofs.Ytpniflbleihdoaa.Core
