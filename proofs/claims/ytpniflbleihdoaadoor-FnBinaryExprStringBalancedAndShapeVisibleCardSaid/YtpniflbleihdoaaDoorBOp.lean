/-
  Proved: n002_79's zzOp gives one of nineteen binary operators, by the remainder of its number.
  Conditions: none.
-/
import Derived.Test.YtpniflbleihdoaaDoorBStr
namespace Go.Proofs.YtpniflbleihdoaaDoor.Bin
open Go.ChangeShapes Go.WideShapes Go.ChangeAt Go.RowKit Go.Lib Core
set_option linter.unusedVariables false

def opList : List Int := [11, 12, 13, 14, 15, 16, 17, 18, 19, 20, 21, 33, 34, 37, 42, 38, 39, 43, 44]
def remOf (k : Int) : Int := if k.tmod 19 < 0 then k.tmod 19 + 19 else k.tmod 19
def opAt (k : Int) : Int := opList.getD (remOf k).toNat 44
theorem tmod_b (k : Int) : -19 < k.tmod 19 ∧ k.tmod 19 < 19 := by
  have h1 := Int.tmod_lt_of_pos k (b := 19) (by decide)
  have h2 := Int.lt_tmod_of_pos k (b := 19) (by decide)
  omega
theorem op_all : (opList.all fun t => decide (tokName t ≠ []) && decide ((tokName t).length ≤ 2) && (tokName t).all fun c => decide (c ≠ 40) && decide (c ≠ 41)) = true := by decide +kernel
theorem op_tk (k : Int) : Tk (opAt k) := by
  have hm : opAt k ∈ opList := by
    unfold opAt
    have hb := tmod_b k
    have h0 : (remOf k).toNat < 19 := by unfold remOf; split <;> omega
    rw [List.getD_eq_getElem?_getD, List.getElem?_eq_getElem (by exact h0)]
    exact List.getElem_mem _
  have := List.all_eq_true.1 op_all _ hm
  simp only [Bool.and_eq_true, decide_eq_true_eq, List.all_eq_true] at this
  exact ⟨this.1.1, this.1.2, fun c hc => this.2 c hc⟩
theorem op_p0 (k : Int) (w : World) (hk : k.tmod 19 = 0) : Calls Tryd.prog 40 #[.int .i64 k] w fun e w' => (∃ s, e = .returned (.tuple #[.int .i64 11, .string s])) ∧ w = w' := by
  go_enter Tryd.func40, Tryd.ntmps40
  go_wp2_with fail
  go_ret2
  exact ⟨⟨_, rfl⟩, rfl⟩
theorem op_p1 (k : Int) (w : World) (hk : k.tmod 19 = 1) : Calls Tryd.prog 40 #[.int .i64 k] w fun e w' => (∃ s, e = .returned (.tuple #[.int .i64 12, .string s])) ∧ w = w' := by
  go_enter Tryd.func40, Tryd.ntmps40
  go_wp2_with fail
  go_ret2
  exact ⟨⟨_, rfl⟩, rfl⟩
theorem op_n1 (k : Int) (w : World) (hk : k.tmod 19 = -18) : Calls Tryd.prog 40 #[.int .i64 k] w fun e w' => (∃ s, e = .returned (.tuple #[.int .i64 12, .string s])) ∧ w = w' := by
  go_enter Tryd.func40, Tryd.ntmps40
  go_wp2_with fail
  go_ret2
  exact ⟨⟨_, rfl⟩, rfl⟩
theorem op_p2 (k : Int) (w : World) (hk : k.tmod 19 = 2) : Calls Tryd.prog 40 #[.int .i64 k] w fun e w' => (∃ s, e = .returned (.tuple #[.int .i64 13, .string s])) ∧ w = w' := by
  go_enter Tryd.func40, Tryd.ntmps40
  go_wp2_with fail
  go_ret2
  exact ⟨⟨_, rfl⟩, rfl⟩
theorem op_n2 (k : Int) (w : World) (hk : k.tmod 19 = -17) : Calls Tryd.prog 40 #[.int .i64 k] w fun e w' => (∃ s, e = .returned (.tuple #[.int .i64 13, .string s])) ∧ w = w' := by
  go_enter Tryd.func40, Tryd.ntmps40
  go_wp2_with fail
  go_ret2
  exact ⟨⟨_, rfl⟩, rfl⟩
theorem op_p3 (k : Int) (w : World) (hk : k.tmod 19 = 3) : Calls Tryd.prog 40 #[.int .i64 k] w fun e w' => (∃ s, e = .returned (.tuple #[.int .i64 14, .string s])) ∧ w = w' := by
  go_enter Tryd.func40, Tryd.ntmps40
  go_wp2_with fail
  go_ret2
  exact ⟨⟨_, rfl⟩, rfl⟩
theorem op_n3 (k : Int) (w : World) (hk : k.tmod 19 = -16) : Calls Tryd.prog 40 #[.int .i64 k] w fun e w' => (∃ s, e = .returned (.tuple #[.int .i64 14, .string s])) ∧ w = w' := by
  go_enter Tryd.func40, Tryd.ntmps40
  go_wp2_with fail
  go_ret2
  exact ⟨⟨_, rfl⟩, rfl⟩
theorem op_p4 (k : Int) (w : World) (hk : k.tmod 19 = 4) : Calls Tryd.prog 40 #[.int .i64 k] w fun e w' => (∃ s, e = .returned (.tuple #[.int .i64 15, .string s])) ∧ w = w' := by
  go_enter Tryd.func40, Tryd.ntmps40
  go_wp2_with fail
  go_ret2
  exact ⟨⟨_, rfl⟩, rfl⟩
theorem op_n4 (k : Int) (w : World) (hk : k.tmod 19 = -15) : Calls Tryd.prog 40 #[.int .i64 k] w fun e w' => (∃ s, e = .returned (.tuple #[.int .i64 15, .string s])) ∧ w = w' := by
  go_enter Tryd.func40, Tryd.ntmps40
  go_wp2_with fail
  go_ret2
  exact ⟨⟨_, rfl⟩, rfl⟩
theorem op_p5 (k : Int) (w : World) (hk : k.tmod 19 = 5) : Calls Tryd.prog 40 #[.int .i64 k] w fun e w' => (∃ s, e = .returned (.tuple #[.int .i64 16, .string s])) ∧ w = w' := by
  go_enter Tryd.func40, Tryd.ntmps40
  go_wp2_with fail
  go_ret2
  exact ⟨⟨_, rfl⟩, rfl⟩
theorem op_n5 (k : Int) (w : World) (hk : k.tmod 19 = -14) : Calls Tryd.prog 40 #[.int .i64 k] w fun e w' => (∃ s, e = .returned (.tuple #[.int .i64 16, .string s])) ∧ w = w' := by
  go_enter Tryd.func40, Tryd.ntmps40
  go_wp2_with fail
  go_ret2
  exact ⟨⟨_, rfl⟩, rfl⟩
theorem op_p6 (k : Int) (w : World) (hk : k.tmod 19 = 6) : Calls Tryd.prog 40 #[.int .i64 k] w fun e w' => (∃ s, e = .returned (.tuple #[.int .i64 17, .string s])) ∧ w = w' := by
  go_enter Tryd.func40, Tryd.ntmps40
  go_wp2_with fail
  go_ret2
  exact ⟨⟨_, rfl⟩, rfl⟩
theorem op_n6 (k : Int) (w : World) (hk : k.tmod 19 = -13) : Calls Tryd.prog 40 #[.int .i64 k] w fun e w' => (∃ s, e = .returned (.tuple #[.int .i64 17, .string s])) ∧ w = w' := by
  go_enter Tryd.func40, Tryd.ntmps40
  go_wp2_with fail
  go_ret2
  exact ⟨⟨_, rfl⟩, rfl⟩
theorem op_p7 (k : Int) (w : World) (hk : k.tmod 19 = 7) : Calls Tryd.prog 40 #[.int .i64 k] w fun e w' => (∃ s, e = .returned (.tuple #[.int .i64 18, .string s])) ∧ w = w' := by
  go_enter Tryd.func40, Tryd.ntmps40
  go_wp2_with fail
  go_ret2
  exact ⟨⟨_, rfl⟩, rfl⟩
theorem op_n7 (k : Int) (w : World) (hk : k.tmod 19 = -12) : Calls Tryd.prog 40 #[.int .i64 k] w fun e w' => (∃ s, e = .returned (.tuple #[.int .i64 18, .string s])) ∧ w = w' := by
  go_enter Tryd.func40, Tryd.ntmps40
  go_wp2_with fail
  go_ret2
  exact ⟨⟨_, rfl⟩, rfl⟩
theorem op_p8 (k : Int) (w : World) (hk : k.tmod 19 = 8) : Calls Tryd.prog 40 #[.int .i64 k] w fun e w' => (∃ s, e = .returned (.tuple #[.int .i64 19, .string s])) ∧ w = w' := by
  go_enter Tryd.func40, Tryd.ntmps40
  go_wp2_with fail
  go_ret2
  exact ⟨⟨_, rfl⟩, rfl⟩
theorem op_n8 (k : Int) (w : World) (hk : k.tmod 19 = -11) : Calls Tryd.prog 40 #[.int .i64 k] w fun e w' => (∃ s, e = .returned (.tuple #[.int .i64 19, .string s])) ∧ w = w' := by
  go_enter Tryd.func40, Tryd.ntmps40
  go_wp2_with fail
  go_ret2
  exact ⟨⟨_, rfl⟩, rfl⟩
theorem op_p9 (k : Int) (w : World) (hk : k.tmod 19 = 9) : Calls Tryd.prog 40 #[.int .i64 k] w fun e w' => (∃ s, e = .returned (.tuple #[.int .i64 20, .string s])) ∧ w = w' := by
  go_enter Tryd.func40, Tryd.ntmps40
  go_wp2_with fail
  go_ret2
  exact ⟨⟨_, rfl⟩, rfl⟩
theorem op_n9 (k : Int) (w : World) (hk : k.tmod 19 = -10) : Calls Tryd.prog 40 #[.int .i64 k] w fun e w' => (∃ s, e = .returned (.tuple #[.int .i64 20, .string s])) ∧ w = w' := by
  go_enter Tryd.func40, Tryd.ntmps40
  go_wp2_with fail
  go_ret2
  exact ⟨⟨_, rfl⟩, rfl⟩
theorem op_p10 (k : Int) (w : World) (hk : k.tmod 19 = 10) : Calls Tryd.prog 40 #[.int .i64 k] w fun e w' => (∃ s, e = .returned (.tuple #[.int .i64 21, .string s])) ∧ w = w' := by
  go_enter Tryd.func40, Tryd.ntmps40
  go_wp2_with fail
  go_ret2
  exact ⟨⟨_, rfl⟩, rfl⟩
theorem op_n10 (k : Int) (w : World) (hk : k.tmod 19 = -9) : Calls Tryd.prog 40 #[.int .i64 k] w fun e w' => (∃ s, e = .returned (.tuple #[.int .i64 21, .string s])) ∧ w = w' := by
  go_enter Tryd.func40, Tryd.ntmps40
  go_wp2_with fail
  go_ret2
  exact ⟨⟨_, rfl⟩, rfl⟩
theorem op_p11 (k : Int) (w : World) (hk : k.tmod 19 = 11) : Calls Tryd.prog 40 #[.int .i64 k] w fun e w' => (∃ s, e = .returned (.tuple #[.int .i64 33, .string s])) ∧ w = w' := by
  go_enter Tryd.func40, Tryd.ntmps40
  go_wp2_with fail
  go_ret2
  exact ⟨⟨_, rfl⟩, rfl⟩
theorem op_n11 (k : Int) (w : World) (hk : k.tmod 19 = -8) : Calls Tryd.prog 40 #[.int .i64 k] w fun e w' => (∃ s, e = .returned (.tuple #[.int .i64 33, .string s])) ∧ w = w' := by
  go_enter Tryd.func40, Tryd.ntmps40
  go_wp2_with fail
  go_ret2
  exact ⟨⟨_, rfl⟩, rfl⟩
theorem op_p12 (k : Int) (w : World) (hk : k.tmod 19 = 12) : Calls Tryd.prog 40 #[.int .i64 k] w fun e w' => (∃ s, e = .returned (.tuple #[.int .i64 34, .string s])) ∧ w = w' := by
  go_enter Tryd.func40, Tryd.ntmps40
  go_wp2_with fail
  go_ret2
  exact ⟨⟨_, rfl⟩, rfl⟩
theorem op_n12 (k : Int) (w : World) (hk : k.tmod 19 = -7) : Calls Tryd.prog 40 #[.int .i64 k] w fun e w' => (∃ s, e = .returned (.tuple #[.int .i64 34, .string s])) ∧ w = w' := by
  go_enter Tryd.func40, Tryd.ntmps40
  go_wp2_with fail
  go_ret2
  exact ⟨⟨_, rfl⟩, rfl⟩
theorem op_p13 (k : Int) (w : World) (hk : k.tmod 19 = 13) : Calls Tryd.prog 40 #[.int .i64 k] w fun e w' => (∃ s, e = .returned (.tuple #[.int .i64 37, .string s])) ∧ w = w' := by
  go_enter Tryd.func40, Tryd.ntmps40
  go_wp2_with fail
  go_ret2
  exact ⟨⟨_, rfl⟩, rfl⟩
theorem op_n13 (k : Int) (w : World) (hk : k.tmod 19 = -6) : Calls Tryd.prog 40 #[.int .i64 k] w fun e w' => (∃ s, e = .returned (.tuple #[.int .i64 37, .string s])) ∧ w = w' := by
  go_enter Tryd.func40, Tryd.ntmps40
  go_wp2_with fail
  go_ret2
  exact ⟨⟨_, rfl⟩, rfl⟩
theorem op_p14 (k : Int) (w : World) (hk : k.tmod 19 = 14) : Calls Tryd.prog 40 #[.int .i64 k] w fun e w' => (∃ s, e = .returned (.tuple #[.int .i64 42, .string s])) ∧ w = w' := by
  go_enter Tryd.func40, Tryd.ntmps40
  go_wp2_with fail
  go_ret2
  exact ⟨⟨_, rfl⟩, rfl⟩
theorem op_n14 (k : Int) (w : World) (hk : k.tmod 19 = -5) : Calls Tryd.prog 40 #[.int .i64 k] w fun e w' => (∃ s, e = .returned (.tuple #[.int .i64 42, .string s])) ∧ w = w' := by
  go_enter Tryd.func40, Tryd.ntmps40
  go_wp2_with fail
  go_ret2
  exact ⟨⟨_, rfl⟩, rfl⟩
theorem op_p15 (k : Int) (w : World) (hk : k.tmod 19 = 15) : Calls Tryd.prog 40 #[.int .i64 k] w fun e w' => (∃ s, e = .returned (.tuple #[.int .i64 38, .string s])) ∧ w = w' := by
  go_enter Tryd.func40, Tryd.ntmps40
  go_wp2_with fail
  go_ret2
  exact ⟨⟨_, rfl⟩, rfl⟩
theorem op_n15 (k : Int) (w : World) (hk : k.tmod 19 = -4) : Calls Tryd.prog 40 #[.int .i64 k] w fun e w' => (∃ s, e = .returned (.tuple #[.int .i64 38, .string s])) ∧ w = w' := by
  go_enter Tryd.func40, Tryd.ntmps40
  go_wp2_with fail
  go_ret2
  exact ⟨⟨_, rfl⟩, rfl⟩
theorem op_p16 (k : Int) (w : World) (hk : k.tmod 19 = 16) : Calls Tryd.prog 40 #[.int .i64 k] w fun e w' => (∃ s, e = .returned (.tuple #[.int .i64 39, .string s])) ∧ w = w' := by
  go_enter Tryd.func40, Tryd.ntmps40
  go_wp2_with fail
  go_ret2
  exact ⟨⟨_, rfl⟩, rfl⟩
theorem op_n16 (k : Int) (w : World) (hk : k.tmod 19 = -3) : Calls Tryd.prog 40 #[.int .i64 k] w fun e w' => (∃ s, e = .returned (.tuple #[.int .i64 39, .string s])) ∧ w = w' := by
  go_enter Tryd.func40, Tryd.ntmps40
  go_wp2_with fail
  go_ret2
  exact ⟨⟨_, rfl⟩, rfl⟩
theorem op_p17 (k : Int) (w : World) (hk : k.tmod 19 = 17) : Calls Tryd.prog 40 #[.int .i64 k] w fun e w' => (∃ s, e = .returned (.tuple #[.int .i64 43, .string s])) ∧ w = w' := by
  go_enter Tryd.func40, Tryd.ntmps40
  go_wp2_with fail
  go_ret2
  exact ⟨⟨_, rfl⟩, rfl⟩
theorem op_n17 (k : Int) (w : World) (hk : k.tmod 19 = -2) : Calls Tryd.prog 40 #[.int .i64 k] w fun e w' => (∃ s, e = .returned (.tuple #[.int .i64 43, .string s])) ∧ w = w' := by
  go_enter Tryd.func40, Tryd.ntmps40
  go_wp2_with fail
  go_ret2
  exact ⟨⟨_, rfl⟩, rfl⟩
theorem op_p18 (k : Int) (w : World) (hk : k.tmod 19 = 18) : Calls Tryd.prog 40 #[.int .i64 k] w fun e w' => (∃ s, e = .returned (.tuple #[.int .i64 44, .string s])) ∧ w = w' := by
  go_enter Tryd.func40, Tryd.ntmps40
  go_wp2_with fail
  go_ret2
  exact ⟨⟨_, rfl⟩, rfl⟩
theorem op_n18 (k : Int) (w : World) (hk : k.tmod 19 = -1) : Calls Tryd.prog 40 #[.int .i64 k] w fun e w' => (∃ s, e = .returned (.tuple #[.int .i64 44, .string s])) ∧ w = w' := by
  go_enter Tryd.func40, Tryd.ntmps40
  go_wp2_with fail
  go_ret2
  exact ⟨⟨_, rfl⟩, rfl⟩
theorem op_any (k : Int) (w : World) (h0 : -9223372036854775808 ≤ k) (h1 : k ≤ 9223372036854775807) : Calls Tryd.prog 40 #[.int .i64 k] w fun e w' => (∃ s, e = .returned (.tuple #[.int .i64 (opAt k), .string s])) ∧ w = w' := by
  have hb := tmod_b k
  have hm : k.tmod 19 = 0 ∨ k.tmod 19 = 1 ∨ k.tmod 19 = 2 ∨ k.tmod 19 = 3 ∨ k.tmod 19 = 4 ∨ k.tmod 19 = 5 ∨ k.tmod 19 = 6 ∨ k.tmod 19 = 7 ∨ k.tmod 19 = 8 ∨ k.tmod 19 = 9 ∨ k.tmod 19 = 10 ∨ k.tmod 19 = 11 ∨ k.tmod 19 = 12 ∨ k.tmod 19 = 13 ∨ k.tmod 19 = 14 ∨ k.tmod 19 = 15 ∨ k.tmod 19 = 16 ∨ k.tmod 19 = 17 ∨ k.tmod 19 = 18 ∨ k.tmod 19 = -18 ∨ k.tmod 19 = -17 ∨ k.tmod 19 = -16 ∨ k.tmod 19 = -15 ∨ k.tmod 19 = -14 ∨ k.tmod 19 = -13 ∨ k.tmod 19 = -12 ∨ k.tmod 19 = -11 ∨ k.tmod 19 = -10 ∨ k.tmod 19 = -9 ∨ k.tmod 19 = -8 ∨ k.tmod 19 = -7 ∨ k.tmod 19 = -6 ∨ k.tmod 19 = -5 ∨ k.tmod 19 = -4 ∨ k.tmod 19 = -3 ∨ k.tmod 19 = -2 ∨ k.tmod 19 = -1 := by omega
  rcases hm with h | h | h | h | h | h | h | h | h | h | h | h | h | h | h | h | h | h | h | h | h | h | h | h | h | h | h | h | h | h | h | h | h | h | h | h | h
  · have e : opAt k = 11 := by unfold opAt remOf; rw [h]; rfl
    rw [e]; exact op_p0 k w h
  · have e : opAt k = 12 := by unfold opAt remOf; rw [h]; rfl
    rw [e]; exact op_p1 k w h
  · have e : opAt k = 13 := by unfold opAt remOf; rw [h]; rfl
    rw [e]; exact op_p2 k w h
  · have e : opAt k = 14 := by unfold opAt remOf; rw [h]; rfl
    rw [e]; exact op_p3 k w h
  · have e : opAt k = 15 := by unfold opAt remOf; rw [h]; rfl
    rw [e]; exact op_p4 k w h
  · have e : opAt k = 16 := by unfold opAt remOf; rw [h]; rfl
    rw [e]; exact op_p5 k w h
  · have e : opAt k = 17 := by unfold opAt remOf; rw [h]; rfl
    rw [e]; exact op_p6 k w h
  · have e : opAt k = 18 := by unfold opAt remOf; rw [h]; rfl
    rw [e]; exact op_p7 k w h
  · have e : opAt k = 19 := by unfold opAt remOf; rw [h]; rfl
    rw [e]; exact op_p8 k w h
  · have e : opAt k = 20 := by unfold opAt remOf; rw [h]; rfl
    rw [e]; exact op_p9 k w h
  · have e : opAt k = 21 := by unfold opAt remOf; rw [h]; rfl
    rw [e]; exact op_p10 k w h
  · have e : opAt k = 33 := by unfold opAt remOf; rw [h]; rfl
    rw [e]; exact op_p11 k w h
  · have e : opAt k = 34 := by unfold opAt remOf; rw [h]; rfl
    rw [e]; exact op_p12 k w h
  · have e : opAt k = 37 := by unfold opAt remOf; rw [h]; rfl
    rw [e]; exact op_p13 k w h
  · have e : opAt k = 42 := by unfold opAt remOf; rw [h]; rfl
    rw [e]; exact op_p14 k w h
  · have e : opAt k = 38 := by unfold opAt remOf; rw [h]; rfl
    rw [e]; exact op_p15 k w h
  · have e : opAt k = 39 := by unfold opAt remOf; rw [h]; rfl
    rw [e]; exact op_p16 k w h
  · have e : opAt k = 43 := by unfold opAt remOf; rw [h]; rfl
    rw [e]; exact op_p17 k w h
  · have e : opAt k = 44 := by unfold opAt remOf; rw [h]; rfl
    rw [e]; exact op_p18 k w h
  · have e : opAt k = 12 := by unfold opAt remOf; rw [h]; rfl
    rw [e]; exact op_n1 k w h
  · have e : opAt k = 13 := by unfold opAt remOf; rw [h]; rfl
    rw [e]; exact op_n2 k w h
  · have e : opAt k = 14 := by unfold opAt remOf; rw [h]; rfl
    rw [e]; exact op_n3 k w h
  · have e : opAt k = 15 := by unfold opAt remOf; rw [h]; rfl
    rw [e]; exact op_n4 k w h
  · have e : opAt k = 16 := by unfold opAt remOf; rw [h]; rfl
    rw [e]; exact op_n5 k w h
  · have e : opAt k = 17 := by unfold opAt remOf; rw [h]; rfl
    rw [e]; exact op_n6 k w h
  · have e : opAt k = 18 := by unfold opAt remOf; rw [h]; rfl
    rw [e]; exact op_n7 k w h
  · have e : opAt k = 19 := by unfold opAt remOf; rw [h]; rfl
    rw [e]; exact op_n8 k w h
  · have e : opAt k = 20 := by unfold opAt remOf; rw [h]; rfl
    rw [e]; exact op_n9 k w h
  · have e : opAt k = 21 := by unfold opAt remOf; rw [h]; rfl
    rw [e]; exact op_n10 k w h
  · have e : opAt k = 33 := by unfold opAt remOf; rw [h]; rfl
    rw [e]; exact op_n11 k w h
  · have e : opAt k = 34 := by unfold opAt remOf; rw [h]; rfl
    rw [e]; exact op_n12 k w h
  · have e : opAt k = 37 := by unfold opAt remOf; rw [h]; rfl
    rw [e]; exact op_n13 k w h
  · have e : opAt k = 42 := by unfold opAt remOf; rw [h]; rfl
    rw [e]; exact op_n14 k w h
  · have e : opAt k = 38 := by unfold opAt remOf; rw [h]; rfl
    rw [e]; exact op_n15 k w h
  · have e : opAt k = 39 := by unfold opAt remOf; rw [h]; rfl
    rw [e]; exact op_n16 k w h
  · have e : opAt k = 43 := by unfold opAt remOf; rw [h]; rfl
    rw [e]; exact op_n17 k w h
  · have e : opAt k = 44 := by unfold opAt remOf; rw [h]; rfl
    rw [e]; exact op_n18 k w h
end Go.Proofs.YtpniflbleihdoaaDoor.Bin
