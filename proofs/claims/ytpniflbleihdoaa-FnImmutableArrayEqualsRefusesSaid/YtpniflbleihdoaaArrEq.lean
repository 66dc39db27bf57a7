/-
  Proved: (*ImmutableArray).Equals: against itself true, against another length or another kind false, of two empty ones true; the other kinds' Equals against an immutable array: false.
  Conditions: at most 131072 elements.
-/
import Derived.Test.YtpniflbleihdoaaArr
namespace Go.Proofs.Ytpniflbleihdoaa.Core
open Go.ChangeShapes Go.WideShapes Go.ChangeAt Go.RowKit
set_option linter.unusedVariables false

/-! ### Methods behind an interface value. -/
theorem ahead_int (a : Addr) (w : World) : (nilAhead 188 39 (.pointer (some a)) "Equals").run Try.prog w = .ok (some false) w := by kernel_rfl
theorem meth_eq (a : Addr) (w : World) : (method 188 39 (.pointer (some a)) "Equals").run Try.prog w = .ok (11, .pointer (some a)) w := by kernel_rfl
theorem meth_copy (a : Addr) (w : World) : (method 188 39 (.pointer (some a)) "Copy").run Try.prog w = .ok (41, .pointer (some a)) w := by kernel_rfl
theorem meth_falsy (a : Addr) (w : World) : (method 188 33 (.pointer (some a)) "IsFalsy").run Try.prog w = .ok (36, .pointer (some a)) w := by kernel_rfl
/-- Another length. -/
theorem eqLenI (a b n m c d : Nat) (A B : Option Addr) (w : World) (ha : w.cell? ⟨a, 0, none⟩ = some (.slice A n c)) (hb : w.cell? ⟨b, 0, none⟩ = some (.slice B m d)) (hn : n ≠ m) :
    Calls Try.prog 8 #[.pointer (some ⟨a, 0, none⟩), .iface 24 (.pointer (some ⟨b, 0, none⟩))] w fun e w' => e = .returned (.bool false) ∧ w = w' := by
  have t1 := as_ima_arr
  have t2 := as_ima_ima
  have d : ((n : Int) != (m : Int)) = true := by simp; omega
  go_enter Try.func8, Try.ntmps8
  go_wp2_with fail
  go_ret
  exact ⟨rfl, rfl⟩
theorem eqLenA (a b n m c d : Nat) (A B : Option Addr) (w : World) (ha : w.cell? ⟨a, 0, none⟩ = some (.slice A n c)) (hb : w.cell? ⟨b, 0, none⟩ = some (.slice B m d)) (hn : n ≠ m) :
    Calls Try.prog 8 #[.pointer (some ⟨a, 0, none⟩), .iface 33 (.pointer (some ⟨b, 0, none⟩))] w fun e w' => e = .returned (.bool false) ∧ w = w' := by
  have t1 := as_arr_arr
  have d : ((n : Int) != (m : Int)) = true := by simp; omega
  go_enter Try.func8, Try.ntmps8
  go_wp2_with fail
  go_ret
  exact ⟨rfl, rfl⟩
/-- Two empty ones. -/
theorem eqZeroI (a b c d : Nat) (A B : Option Addr) (w : World) (ha : w.cell? ⟨a, 0, none⟩ = some (.slice A 0 c)) (hb : w.cell? ⟨b, 0, none⟩ = some (.slice B 0 d)) :
    Calls Try.prog 8 #[.pointer (some ⟨a, 0, none⟩), .iface 24 (.pointer (some ⟨b, 0, none⟩))] w fun e w' => e = .returned (.bool true) ∧ w = w' := by
  have t1 := as_ima_arr
  have t2 := as_ima_ima
  go_enter Try.func8, Try.ntmps8
  go_wp2_with fail
  refine wp_loop_rounds 1 ?_
  rw [rounds_succ]
  go_wp2_with fail
  go_ret
  exact ⟨rfl, rfl⟩
theorem eqZeroA (a b c d : Nat) (A B : Option Addr) (w : World) (ha : w.cell? ⟨a, 0, none⟩ = some (.slice A 0 c)) (hb : w.cell? ⟨b, 0, none⟩ = some (.slice B 0 d)) :
    Calls Try.prog 8 #[.pointer (some ⟨a, 0, none⟩), .iface 33 (.pointer (some ⟨b, 0, none⟩))] w fun e w' => e = .returned (.bool true) ∧ w = w' := by
  have t1 := as_arr_arr
  go_enter Try.func8, Try.ntmps8
  go_wp2_with fail
  refine wp_loop_rounds 1 ?_
  rw [rounds_succ]
  go_wp2_with fail
  go_ret
  exact ⟨rfl, rfl⟩

set_option maxHeartbeats 1000000 in
/-- Itself. -/
theorem eqSelf (a G n : Nat) (zs : List Int) (w : World) (ha : w.cell? ⟨a, 0, none⟩ = some (.slice (some ⟨G, 0, none⟩) n n)) (ho : Objs w G n zs) (hn : n ≤ 131072) :
    Calls Try.prog 8 #[.pointer (some ⟨a, 0, none⟩), .iface 24 (.pointer (some ⟨a, 0, none⟩))] w fun e w' => e = .returned (.bool true) ∧ ∃ k, w' = w.drewN k := by
  have t1 := as_ima_arr
  have t2 := as_ima_ima
  have d : ((n : Int) != (n : Int)) = false := by simp
  have HO := Lib.hid ho
  clear ho
  go_enter Try.func8, Try.ntmps8
  go_wp2_with fail
  go_loopw [39] (fun vi wr => ∃ i k : Nat, i ≤ n ∧ vi = .int .i64 i ∧ Hid (wr = w.drewN k)) (fun vi _ => n - (intOf vi).toNat)
  case atStart => exact ⟨0, 0, by omega, rfl, Lib.hid rfl⟩
  case round =>
    obtain ⟨i, k, hi, rfl, HW⟩ := hrel
    by_cases hlt : i < n
    · have hlt' : (i : Int) < (n : Int) := by omega
      obtain ⟨b, hc0, hd0⟩ := HO.out i hlt
      have hc : wr.cell? ⟨G, i, none⟩ = some (.iface 39 (.pointer (some ⟨b, 0, none⟩))) := by rw [HW.out]; exact hc0
      have hd : wr.cell? ⟨b, 0, none⟩ = some (.int .i64 (zs.getD i 0)) := by rw [HW.out]; exact hd0
      clear hc0 hd0
      have IE : ∀ k, Calls Try.prog 11 #[.pointer (some ⟨b, 0, none⟩), .iface 39 (.pointer (some ⟨b, 0, none⟩))] (wr.drewN k) fun e w' => e = .returned (.bool true) ∧ ∃ m, w' = (wr.drewN k).drewN m := fun k => by
        have := intEq_any b b _ _ (wr.drewN k) hd hd
        rwa [show (zs.getD i 0 == zs.getD i 0) = true by simp] at this
      have IH := Lib.hid IE
      clear IE
      have na := ahead_int
      have me := meth_eq
      go_wp2_with fail
      go_quiet (first | (go_at_call 11; exact Calls.quiet_of (IH.out _)) | (trace_state; fail))
      go_wp2_with fail
      go_roundw
      case rel => exact ⟨i + 1, k + nq, by omega, by go_num, Lib.hid (by rw [HW.out, World.drewN_drewN])⟩
      case measure => simp [intOf]; omega
    · have hlt' : ¬ (i : Int) < (n : Int) := by omega
      go_wp2_with fail
      go_ret
      exact ⟨rfl, _, HW.out⟩
end Go.Proofs.Ytpniflbleihdoaa.Core
