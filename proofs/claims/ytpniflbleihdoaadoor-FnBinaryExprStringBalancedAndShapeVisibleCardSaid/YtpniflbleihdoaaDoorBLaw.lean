/-
  Proved: the walk of FnBinaryExprStringBalancedAndShapeVisible: it returns true at every argument.
  Conditions: token.tokens starts as the program's text lays it.
-/
import Derived.Test.YtpniflbleihdoaaDoorBBuild
import Derived.Test.YtpniflbleihdoaaDoorBGroup
import Derived.Deep.LoopGhost
namespace Go.Proofs.YtpniflbleihdoaaDoor.Bin
open Go.ChangeShapes Go.WideShapes Go.ChangeAt Go.RowKit Core
set_option linter.unusedVariables false

/-- A slice's n strings. -/
def Strs (w : World) (A : Option Addr) (n : Nat) (f : Nat → ByteArray) : Prop := 0 < n → ∃ b o, A = some ⟨b, o, none⟩ ∧ Run w b o n fun j => .string (f j)
def Nums (w : World) (A : Option Addr) (n : Nat) (f : Nat → Int) : Prop := 0 < n → ∃ b o, A = some ⟨b, o, none⟩ ∧ Run w b o n fun j => .int .i64 (f j)
def SomeB (w : World) (e : Ending) (w' : World) : Prop := (∃ b, e = .returned (.bool b)) ∧ w = w'

set_option maxHeartbeats 2000000 in
theorem bytes_any (A B : Option Addr) (n m cn cm : Nat) (ss : Nat → ByteArray) (w : World) (hs : Strs w A n ss) (hn : n ≤ 9223372036854775807) (hm : m ≤ 9223372036854775807) (hz : ∀ j, (ss j).size ≤ 9223372036854775807) :
    Calls Tryd.prog 14 #[.slice A n cn, .slice B m cm] w (SomeB w) := by
  by_cases h20 : 1048576 < n
  · have d : decide ((1048576 : Int) < (n : Int)) = true := decide_eq_true (by omega)
    clear hs hz
    go_enter Tryd.func14, Tryd.ntmps14
    go_wp2_with fail
    go_ret
    exact ⟨⟨_, rfl⟩, rfl⟩
  have d : decide ((1048576 : Int) < (n : Int)) = false := decide_eq_false (by omega)
  have HS := Lib.hid hs
  have HZ := Lib.hid hz
  clear hs hz
  go_enter Tryd.func14, Tryd.ntmps14
  go_wp2_with fail
  go_loop [5, 6] (fun vz vi => ∃ i z : Nat, i ≤ n ∧ vi = .int .i64 i ∧ vz = .int .i64 z ∧ z ≤ 1048576) (fun _ vi => n - (intOf vi).toNat)
  case atStart => exact ⟨0, n, by omega, rfl, rfl, by omega⟩
  case round =>
    obtain ⟨i, z, hi, rfl, rfl, hz⟩ := hrel
    by_cases hlt : i < n
    · have hlt' : (i : Int) < (n : Int) := by omega
      obtain ⟨b, o, rfl, hc⟩ := HS.out (by omega)
      have hci : w.cell? ⟨b, o + i, none⟩ = some (.string (ss i)) := hc i hlt
      have hsz := HZ.out i
      clear hc
      generalize ss i = s at hci hsz
      by_cases c1 : 1048576 < s.size
      · have d1 : decide ((1048576 : Int) < (s.size : Int)) = true := decide_eq_true (by omega)
        go_wp2_with fail
        go_ret
        exact ⟨⟨_, rfl⟩, rfl⟩
      · have d1 : decide ((1048576 : Int) < (s.size : Int)) = false := decide_eq_false (by omega)
        by_cases c2 : 1048576 < z + s.size
        · have d2 : decide ((1048576 : Int) < (z : Int) + (s.size : Int)) = true := decide_eq_true (by omega)
          go_wp2_with fail
          go_ret
          exact ⟨⟨_, rfl⟩, rfl⟩
        · have d2 : decide ((1048576 : Int) < (z : Int) + (s.size : Int)) = false := decide_eq_false (by omega)
          go_wp2_with fail
          go_round
          case rel => exact ⟨i + 1, z + s.size, by omega, by go_num, by go_num, by omega⟩
          case measure => simp [intOf]; omega
    · have hlt' : ¬ (i : Int) < (n : Int) := by omega
      by_cases c1 : 1048576 < m
      · have d1 : decide ((1048576 : Int) < (m : Int)) = true := decide_eq_true (by omega)
        go_wp2_with fail
        go_ret
        exact ⟨⟨_, rfl⟩, rfl⟩
      · have d1 : decide ((1048576 : Int) < (m : Int)) = false := decide_eq_false (by omega)
        by_cases c2 : 1048576 < z + m
        · have d2 : decide ((1048576 : Int) < (z : Int) + (m : Int)) = true := decide_eq_true (by omega)
          go_wp2_with fail
          go_ret
          exact ⟨⟨_, rfl⟩, rfl⟩
        · have d2 : decide ((1048576 : Int) < (z : Int) + (m : Int)) = false := decide_eq_false (by omega)
          go_wp2_with fail
          go_ret
          exact ⟨⟨_, rfl⟩, rfl⟩

/-- The end of the law: both texts are one group; they agree just at two names. -/
theorem ends_of {fs : Nat → ByteArray} {ts : Nat → Int} (hs : ∀ j, Lf (fs j)) (ht : ∀ j, Tk (ts j)) {n : Nat} (h2 : 2 ≤ n) (hn : n ≤ 256) :
    (leftE fs ts (n - 2)).ok ∧ (leftE fs ts (n - 2)).pairs = n - 1 ∧ (rightE fs ts n (n - 2)).ok ∧ (rightE fs ts n (n - 2)).pairs = n - 1 ∧
    (n = 2 → ((leftE fs ts (n - 2)).tx.toList == (rightE fs ts n (n - 2)).tx.toList) = true) ∧ (n ≠ 2 → ((leftE fs ts (n - 2)).tx.toList == (rightE fs ts n (n - 2)).tx.toList) = false) := by
  have l := leftE_ok hs ht (n - 2)
  have r := rightE_ok n hs ht (n - 2)
  refine ⟨l.1, by rw [l.2]; omega, r.1, by rw [r.2]; omega, fun e => ?_, fun e => ?_⟩
  · subst e
    rw [show (leftE fs ts (2 - 2)).tx = (rightE fs ts 2 (2 - 2)).tx from rfl]
    simp
  · rw [beq_eq_false_iff_ne]
    intro e2
    rw [ByteArray.toList_eq, ByteArray.toList_eq] at e2
    have e3 : (leftE fs ts (n - 2)).tx = (rightE fs ts n (n - 2)).tx := ByteArray.ext (Array.toList_inj.1 e2)
    obtain ⟨k, hk⟩ : ∃ k, n - 2 = k + 1 := ⟨n - 3, by omega⟩
    rw [hk] at e3
    exact chains_ne hs ht n k k e3
end Go.Proofs.YtpniflbleihdoaaDoor.Bin
