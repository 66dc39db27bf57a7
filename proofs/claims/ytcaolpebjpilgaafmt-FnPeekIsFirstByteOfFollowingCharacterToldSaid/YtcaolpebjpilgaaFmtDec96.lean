/-
  Proved: n002_96's own decoder (zzDecode) gives the character and the width that the library's decoder gives.
  Conditions: the text lies in memory.
-/
import Derived.Test.YtcaolpebjpilgaaFmtLive
import Derived.BigFrame
import Derived.Laws.BitsLemmas
namespace Go.Proofs.YtcaolpebjpilgaaFmt.Dec96
open Go.ChangeShapes Go.WideShapes Go.ChangeAt Go.RowKit Core
set_option linter.unusedVariables false

theorem mask (x i : Nat) (hx : x < 256) (hi : i ≤ 8) : bits .and .i32 (x : Int) (2 ^ i - 1) = ((x % 2 ^ i : Nat) : Int) := by
  rw [bits_mask .i32 31 (by decide) wraps_i32 i (by omega) (x : Int) (by omega) (by omega)]
  simp
theorem mask31 (x : Nat) (hx : x < 256) : bits .and .i32 (x : Int) 31 = ((x % 32 : Nat) : Int) := mask x 5 hx (by omega)
theorem mask15 (x : Nat) (hx : x < 256) : bits .and .i32 (x : Int) 15 = ((x % 16 : Nat) : Int) := mask x 4 hx (by omega)
theorem mask7 (x : Nat) (hx : x < 256) : bits .and .i32 (x : Int) 7 = ((x % 8 : Nat) : Int) := mask x 3 hx (by omega)
theorem mask63 (x : Nat) (hx : x < 256) : bits .and .i32 (x : Int) 63 = ((x % 64 : Nat) : Int) := mask x 6 hx (by omega)
theorem w32_nat (x : Nat) (h : x < 2147483648) : wrap32 (x : Int) = (x : Int) := by unfold wrap32; omega
theorem or_nat (x y i : Nat) (hx : x % 2 ^ i = 0) (hy : y < 2 ^ i) (hx2 : x < 2 ^ 31) (hy2 : y < 2 ^ 31) : bits .or .i32 (x : Int) (y : Int) = ((x + y : Nat) : Int) := by
  rw [(bits_nat .i32 31 (by decide) wraps_i32 x y hx2 hy2).2]
  congr 1
  have e : x = 2 ^ i * (x / 2 ^ i) := (Nat.mul_div_cancel' (Nat.dvd_of_mod_eq_zero hx)).symm
  rw [e, ← Nat.two_pow_add_eq_or_of_lt hy]
theorem val2 (c0 b1 : Nat) (h0 : c0 < 256) (h1 : b1 < 256) : bits .or .i32 (wrap32 (bits .and .i32 (c0 : Int) 31 * 64)) (bits .and .i32 (b1 : Int) 63) = ((c0 % 32 * 64 + b1 % 64 : Nat) : Int) := by
  rw [mask31 c0 h0, mask63 b1 h1, show ((c0 % 32 : Nat) : Int) * 64 = ((c0 % 32 * 64 : Nat) : Int) by omega, w32_nat _ (by omega), or_nat _ _ 6 (by omega) (by omega) (by omega) (by omega)]
theorem val3 (c0 b1 b2 : Nat) (h0 : c0 < 256) (h1 : b1 < 256) (h2 : b2 < 256) : bits .or .i32 (bits .or .i32 (wrap32 (bits .and .i32 (c0 : Int) 15 * 4096)) (wrap32 (bits .and .i32 (b1 : Int) 63 * 64))) (bits .and .i32 (b2 : Int) 63) = ((c0 % 16 * 4096 + b1 % 64 * 64 + b2 % 64 : Nat) : Int) := by
  rw [mask15 c0 h0, mask63 b1 h1, mask63 b2 h2, show ((c0 % 16 : Nat) : Int) * 4096 = ((c0 % 16 * 4096 : Nat) : Int) by omega, show ((b1 % 64 : Nat) : Int) * 64 = ((b1 % 64 * 64 : Nat) : Int) by omega, w32_nat _ (by omega), w32_nat _ (by omega),
    or_nat _ _ 12 (by omega) (by omega) (by omega) (by omega), or_nat _ _ 6 (by omega) (by omega) (by omega) (by omega)]
theorem val4 (c0 b1 b2 b3 : Nat) (h0 : c0 < 256) (h1 : b1 < 256) (h2 : b2 < 256) (h3 : b3 < 256) : bits .or .i32 (bits .or .i32 (bits .or .i32 (wrap32 (bits .and .i32 (c0 : Int) 7 * 262144)) (wrap32 (bits .and .i32 (b1 : Int) 63 * 4096))) (wrap32 (bits .and .i32 (b2 : Int) 63 * 64))) (bits .and .i32 (b3 : Int) 63) = ((c0 % 8 * 262144 + b1 % 64 * 4096 + b2 % 64 * 64 + b3 % 64 : Nat) : Int) := by
  rw [mask7 c0 h0, mask63 b1 h1, mask63 b2 h2, mask63 b3 h3, show ((c0 % 8 : Nat) : Int) * 262144 = ((c0 % 8 * 262144 : Nat) : Int) by omega, show ((b1 % 64 : Nat) : Int) * 4096 = ((b1 % 64 * 4096 : Nat) : Int) by omega, show ((b2 % 64 : Nat) : Int) * 64 = ((b2 % 64 * 64 : Nat) : Int) by omega,
    w32_nat _ (by omega), w32_nat _ (by omega), w32_nat _ (by omega), or_nat _ _ 18 (by omega) (by omega) (by omega) (by omega), or_nat _ _ 12 (by omega) (by omega) (by omega) (by omega), or_nat _ _ 6 (by omega) (by omega) (by omega) (by omega)]

def Row (w : World) (b o cap : Nat) (bs : List UInt8) : Prop := ∀ j, j < bs.length → w.cell? ⟨b, o + j, none⟩ = some (.int .u8 (bt bs j))
theorem cont_yes (c : Nat) (w : World) (h : 128 ≤ c ∧ c ≤ 191) : Calls Tryf.prog 43 #[.int .i32 c] w fun e w' => e = .returned (.bool true) ∧ w = w' := by
  have d1 : decide ((128 : Int) ≤ (c : Int)) = true := decide_eq_true (by omega)
  have d2 : decide ((c : Int) ≤ 191) = true := decide_eq_true (by omega)
  go_enter Tryf.func43, Tryf.ntmps43
  go_wp2_with fail
  go_ret
  exact ⟨rfl, rfl⟩
theorem cont_no (c : Nat) (w : World) (h : c < 128 ∨ 191 < c) : Calls Tryf.prog 43 #[.int .i32 c] w fun e w' => e = .returned (.bool false) ∧ w = w' := by
  rcases h with h | h
  · have d1 : decide ((128 : Int) ≤ (c : Int)) = false := decide_eq_false (by omega)
    go_enter Tryf.func43, Tryf.ntmps43
    go_wp2_with fail
    go_ret
    exact ⟨rfl, rfl⟩
  · have d1 : decide ((128 : Int) ≤ (c : Int)) = true := decide_eq_true (by omega)
    have d2 : decide ((c : Int) ≤ 191) = false := decide_eq_false (by omega)
    go_enter Tryf.func43, Tryf.ntmps43
    go_wp2_with fail
    go_ret
    exact ⟨rfl, rfl⟩

set_option maxHeartbeats 2000000 in
set_option maxRecDepth 20000 in
theorem d_S (b o cap : Nat) (bs : List UInt8) (i c0 : Nat) (w : World) (hi : i < bs.length) (hn : bs.length ≤ 2000000) (h : Row w b o cap bs) (hc0 : bt bs i = c0) (hk : c0 < 128) :
    Calls Tryf.prog 36 #[.slice (some ⟨b, o, none⟩) bs.length cap, .int .i64 i] w fun e w' => e = .returned (.tuple #[.int .i32 (c0 : Int), .int .i64 1]) ∧ w = w' := by
  have H := Lib.hid h
  have ci := h i hi
  have hi' : (i : Int) < (bs.length : Int) := by omega
  clear h
  have hc : c0 < 256 := by rw [← hc0]; exact bt_lt bs i
  rw [hc0] at ci
  clear hc0
  have t0 : decide ((c0 : Int) < 128) = true := decide_eq_true (by omega)
  go_enter Tryf.func36, Tryf.ntmps36
  go_big_wp2_with fail
  go_ret2
  exact ⟨rfl, rfl⟩
set_option maxHeartbeats 2000000 in
set_option maxRecDepth 20000 in
theorem d_L (b o cap : Nat) (bs : List UInt8) (i c0 : Nat) (w : World) (hi : i < bs.length) (hn : bs.length ≤ 2000000) (h : Row w b o cap bs) (hc0 : bt bs i = c0) (hk : 128 ≤ c0 ∧ c0 < 194) :
    Calls Tryf.prog 36 #[.slice (some ⟨b, o, none⟩) bs.length cap, .int .i64 i] w fun e w' => e = .returned (.tuple #[.int .i32 65533, .int .i64 1]) ∧ w = w' := by
  have H := Lib.hid h
  have ci := h i hi
  have hi' : (i : Int) < (bs.length : Int) := by omega
  clear h
  have hc : c0 < 256 := by rw [← hc0]; exact bt_lt bs i
  rw [hc0] at ci
  clear hc0
  have t0 : decide ((c0 : Int) < 128) = false := decide_eq_false (by omega)
  have t1 : decide ((c0 : Int) < 194) = true := decide_eq_true (by omega)
  go_enter Tryf.func36, Tryf.ntmps36
  go_big_wp2_with fail
  go_ret2
  exact ⟨rfl, rfl⟩
set_option maxHeartbeats 2000000 in
set_option maxRecDepth 20000 in
theorem d_H (b o cap : Nat) (bs : List UInt8) (i c0 : Nat) (w : World) (hi : i < bs.length) (hn : bs.length ≤ 2000000) (h : Row w b o cap bs) (hc0 : bt bs i = c0) (hk : 244 < c0) :
    Calls Tryf.prog 36 #[.slice (some ⟨b, o, none⟩) bs.length cap, .int .i64 i] w fun e w' => e = .returned (.tuple #[.int .i32 65533, .int .i64 1]) ∧ w = w' := by
  have H := Lib.hid h
  have ci := h i hi
  have hi' : (i : Int) < (bs.length : Int) := by omega
  clear h
  have hc : c0 < 256 := by rw [← hc0]; exact bt_lt bs i
  rw [hc0] at ci
  clear hc0
  have t0 : decide ((c0 : Int) < 128) = false := decide_eq_false (by omega)
  have t1 : decide ((c0 : Int) < 194) = false := decide_eq_false (by omega)
  have t2 : decide ((244 : Int) < (c0 : Int)) = true := decide_eq_true (by omega)
  go_enter Tryf.func36, Tryf.ntmps36
  go_big_wp2_with fail
  go_ret2
  exact ⟨rfl, rfl⟩
set_option maxHeartbeats 2000000 in
set_option maxRecDepth 20000 in
theorem d_A_short (b o cap : Nat) (bs : List UInt8) (i c0 : Nat) (w : World) (hi : i < bs.length) (hn : bs.length ≤ 2000000) (h : Row w b o cap bs) (hc0 : bt bs i = c0) (hk : 194 ≤ c0 ∧ c0 ≤ 223) (hs : bs.length - i < 2) :
    Calls Tryf.prog 36 #[.slice (some ⟨b, o, none⟩) bs.length cap, .int .i64 i] w fun e w' => e = .returned (.tuple #[.int .i32 65533, .int .i64 1]) ∧ w = w' := by
  have H := Lib.hid h
  have ci := h i hi
  have hi' : (i : Int) < (bs.length : Int) := by omega
  clear h
  have hc : c0 < 256 := by rw [← hc0]; exact bt_lt bs i
  rw [hc0] at ci
  clear hc0
  have t0 : decide ((c0 : Int) < 128) = false := decide_eq_false (by omega)
  have t1 : decide ((c0 : Int) < 194) = false := decide_eq_false (by omega)
  have t2 : decide ((244 : Int) < (c0 : Int)) = false := decide_eq_false (by omega)
  have t3 : decide ((c0 : Int) < 224) = true := decide_eq_true (by omega)
  have s0 : decide ((bs.length : Int) - (i : Int) < 2) = true := decide_eq_true (by omega)
  go_enter Tryf.func36, Tryf.ntmps36
  go_big_wp2_with fail
  go_ret2
  exact ⟨rfl, rfl⟩
set_option maxHeartbeats 2000000 in
set_option maxRecDepth 20000 in
theorem d_A_b1 (b o cap : Nat) (bs : List UInt8) (i c0 : Nat) (w : World) (hi : i < bs.length) (hn : bs.length ≤ 2000000) (h : Row w b o cap bs) (hc0 : bt bs i = c0) (b1 : Nat) (hb1 : bt bs (i + 1) = b1) (hk : 194 ≤ c0 ∧ c0 ≤ 223) (hs : 2 ≤ bs.length - i) (h1 : b1 < 128 ∨ 191 < b1) :
    Calls Tryf.prog 36 #[.slice (some ⟨b, o, none⟩) bs.length cap, .int .i64 i] w fun e w' => e = .returned (.tuple #[.int .i32 65533, .int .i64 1]) ∧ w = w' := by
  have H := Lib.hid h
  have ci := h i hi
  have hi' : (i : Int) < (bs.length : Int) := by omega
  clear h
  have hc : c0 < 256 := by rw [← hc0]; exact bt_lt bs i
  rw [hc0] at ci
  clear hc0
  have t0 : decide ((c0 : Int) < 128) = false := decide_eq_false (by omega)
  have t1 : decide ((c0 : Int) < 194) = false := decide_eq_false (by omega)
  have t2 : decide ((244 : Int) < (c0 : Int)) = false := decide_eq_false (by omega)
  have t3 : decide ((c0 : Int) < 224) = true := decide_eq_true (by omega)
  have s0 : decide ((bs.length : Int) - (i : Int) < 2) = false := decide_eq_false (by omega)
  have c1 := H.out (i + 1) (by omega)
  have i1 : (i : Int) + 1 < (bs.length : Int) := by omega
  have hx1 : b1 < 256 := by rw [← hb1]; exact bt_lt bs _
  rw [hb1] at c1
  clear hb1
  have K1 := Lib.hid (cont_no b1 w h1)
  go_enter Tryf.func36, Tryf.ntmps36
  go_big_wp2_with (first | (go_at_call 43; refine K1.out.mono ?_; clear K1; rintro e w1 ⟨rfl, rfl⟩))
  go_ret2
  exact ⟨rfl, rfl⟩
set_option maxHeartbeats 2000000 in
set_option maxRecDepth 20000 in
theorem d_A_ok (b o cap : Nat) (bs : List UInt8) (i c0 : Nat) (w : World) (hi : i < bs.length) (hn : bs.length ≤ 2000000) (h : Row w b o cap bs) (hc0 : bt bs i = c0) (b1 : Nat) (hb1 : bt bs (i + 1) = b1) (hk : 194 ≤ c0 ∧ c0 ≤ 223) (hs : 2 ≤ bs.length - i) (h1 : 128 ≤ b1 ∧ b1 ≤ 191) :
    Calls Tryf.prog 36 #[.slice (some ⟨b, o, none⟩) bs.length cap, .int .i64 i] w fun e w' => e = .returned (.tuple #[.int .i32 ((c0 % 32 * 64 + b1 % 64 : Nat) : Int), .int .i64 2]) ∧ w = w' := by
  have H := Lib.hid h
  have ci := h i hi
  have hi' : (i : Int) < (bs.length : Int) := by omega
  clear h
  have hc : c0 < 256 := by rw [← hc0]; exact bt_lt bs i
  rw [hc0] at ci
  clear hc0
  have t0 : decide ((c0 : Int) < 128) = false := decide_eq_false (by omega)
  have t1 : decide ((c0 : Int) < 194) = false := decide_eq_false (by omega)
  have t2 : decide ((244 : Int) < (c0 : Int)) = false := decide_eq_false (by omega)
  have t3 : decide ((c0 : Int) < 224) = true := decide_eq_true (by omega)
  have s0 : decide ((bs.length : Int) - (i : Int) < 2) = false := decide_eq_false (by omega)
  have c1 := H.out (i + 1) (by omega)
  have i1 : (i : Int) + 1 < (bs.length : Int) := by omega
  have hx1 : b1 < 256 := by rw [← hb1]; exact bt_lt bs _
  rw [hb1] at c1
  clear hb1
  have K1 := Lib.hid (cont_yes b1 w h1)
  go_enter Tryf.func36, Tryf.ntmps36
  go_big_wp2_with (first | (go_at_call 43; refine K1.out.mono ?_; clear K1; rintro e w1 ⟨rfl, rfl⟩))
  go_ret2
  exact ⟨congrArg (fun x => Ending.returned (.tuple #[.int .i32 x, .int .i64 2])) (val2 c0 b1 hc hx1), rfl⟩
set_option maxHeartbeats 2000000 in
set_option maxRecDepth 20000 in
theorem d_B_short (b o cap : Nat) (bs : List UInt8) (i c0 : Nat) (w : World) (hi : i < bs.length) (hn : bs.length ≤ 2000000) (h : Row w b o cap bs) (hc0 : bt bs i = c0) (hk : 224 ≤ c0 ∧ c0 ≤ 224) (hs : bs.length - i < 3) :
    Calls Tryf.prog 36 #[.slice (some ⟨b, o, none⟩) bs.length cap, .int .i64 i] w fun e w' => e = .returned (.tuple #[.int .i32 65533, .int .i64 1]) ∧ w = w' := by
  have H := Lib.hid h
  have ci := h i hi
  have hi' : (i : Int) < (bs.length : Int) := by omega
  clear h
  have hc : c0 < 256 := by rw [← hc0]; exact bt_lt bs i
  rw [hc0] at ci
  clear hc0
  have t0 : decide ((c0 : Int) < 128) = false := decide_eq_false (by omega)
  have t1 : decide ((c0 : Int) < 194) = false := decide_eq_false (by omega)
  have t2 : decide ((244 : Int) < (c0 : Int)) = false := decide_eq_false (by omega)
  have t3 : decide ((c0 : Int) < 224) = false := decide_eq_false (by omega)
  have t4 : decide ((c0 : Int) < 240) = true := decide_eq_true (by omega)
  have t5 : ((c0 : Int) == 224) = true := by simp; omega
  have t6 : ((c0 : Int) == 237) = false := by simp; omega
  have s0 : decide ((bs.length : Int) - (i : Int) < 3) = true := decide_eq_true (by omega)
  go_enter Tryf.func36, Tryf.ntmps36
  go_big_wp2_with fail
  go_ret2
  exact ⟨rfl, rfl⟩
set_option maxHeartbeats 2000000 in
set_option maxRecDepth 20000 in
theorem d_B_lo (b o cap : Nat) (bs : List UInt8) (i c0 : Nat) (w : World) (hi : i < bs.length) (hn : bs.length ≤ 2000000) (h : Row w b o cap bs) (hc0 : bt bs i = c0) (b1 b2 : Nat) (hb1 : bt bs (i + 1) = b1) (hb2 : bt bs (i + 2) = b2) (hk : 224 ≤ c0 ∧ c0 ≤ 224) (hs : 3 ≤ bs.length - i) (h1 : b1 < 160) :
    Calls Tryf.prog 36 #[.slice (some ⟨b, o, none⟩) bs.length cap, .int .i64 i] w fun e w' => e = .returned (.tuple #[.int .i32 65533, .int .i64 1]) ∧ w = w' := by
  have H := Lib.hid h
  have ci := h i hi
  have hi' : (i : Int) < (bs.length : Int) := by omega
  clear h
  have hc : c0 < 256 := by rw [← hc0]; exact bt_lt bs i
  rw [hc0] at ci
  clear hc0
  have t0 : decide ((c0 : Int) < 128) = false := decide_eq_false (by omega)
  have t1 : decide ((c0 : Int) < 194) = false := decide_eq_false (by omega)
  have t2 : decide ((244 : Int) < (c0 : Int)) = false := decide_eq_false (by omega)
  have t3 : decide ((c0 : Int) < 224) = false := decide_eq_false (by omega)
  have t4 : decide ((c0 : Int) < 240) = true := decide_eq_true (by omega)
  have t5 : ((c0 : Int) == 224) = true := by simp; omega
  have t6 : ((c0 : Int) == 237) = false := by simp; omega
  have s0 : decide ((bs.length : Int) - (i : Int) < 3) = false := decide_eq_false (by omega)
  have c1 := H.out (i + 1) (by omega)
  have i1 : (i : Int) + 1 < (bs.length : Int) := by omega
  have hx1 : b1 < 256 := by rw [← hb1]; exact bt_lt bs _
  rw [hb1] at c1
  clear hb1
  have c2 := H.out (i + 2) (by omega)
  have i2 : (i : Int) + 2 < (bs.length : Int) := by omega
  have hx2 : b2 < 256 := by rw [← hb2]; exact bt_lt bs _
  rw [hb2] at c2
  clear hb2
  have u1 : decide ((b1 : Int) < 160) = true := decide_eq_true (by omega)
  go_enter Tryf.func36, Tryf.ntmps36
  go_big_wp2_with fail
  go_ret2
  exact ⟨rfl, rfl⟩
set_option maxHeartbeats 2000000 in
set_option maxRecDepth 20000 in
theorem d_B_hi (b o cap : Nat) (bs : List UInt8) (i c0 : Nat) (w : World) (hi : i < bs.length) (hn : bs.length ≤ 2000000) (h : Row w b o cap bs) (hc0 : bt bs i = c0) (b1 b2 : Nat) (hb1 : bt bs (i + 1) = b1) (hb2 : bt bs (i + 2) = b2) (hk : 224 ≤ c0 ∧ c0 ≤ 224) (hs : 3 ≤ bs.length - i) (h1 : 191 < b1) :
    Calls Tryf.prog 36 #[.slice (some ⟨b, o, none⟩) bs.length cap, .int .i64 i] w fun e w' => e = .returned (.tuple #[.int .i32 65533, .int .i64 1]) ∧ w = w' := by
  have H := Lib.hid h
  have ci := h i hi
  have hi' : (i : Int) < (bs.length : Int) := by omega
  clear h
  have hc : c0 < 256 := by rw [← hc0]; exact bt_lt bs i
  rw [hc0] at ci
  clear hc0
  have t0 : decide ((c0 : Int) < 128) = false := decide_eq_false (by omega)
  have t1 : decide ((c0 : Int) < 194) = false := decide_eq_false (by omega)
  have t2 : decide ((244 : Int) < (c0 : Int)) = false := decide_eq_false (by omega)
  have t3 : decide ((c0 : Int) < 224) = false := decide_eq_false (by omega)
  have t4 : decide ((c0 : Int) < 240) = true := decide_eq_true (by omega)
  have t5 : ((c0 : Int) == 224) = true := by simp; omega
  have t6 : ((c0 : Int) == 237) = false := by simp; omega
  have s0 : decide ((bs.length : Int) - (i : Int) < 3) = false := decide_eq_false (by omega)
  have c1 := H.out (i + 1) (by omega)
  have i1 : (i : Int) + 1 < (bs.length : Int) := by omega
  have hx1 : b1 < 256 := by rw [← hb1]; exact bt_lt bs _
  rw [hb1] at c1
  clear hb1
  have c2 := H.out (i + 2) (by omega)
  have i2 : (i : Int) + 2 < (bs.length : Int) := by omega
  have hx2 : b2 < 256 := by rw [← hb2]; exact bt_lt bs _
  rw [hb2] at c2
  clear hb2
  have u1 : decide ((b1 : Int) < 160) = false := decide_eq_false (by omega)
  have u2 : decide ((191 : Int) < (b1 : Int)) = true := decide_eq_true (by omega)
  go_enter Tryf.func36, Tryf.ntmps36
  go_big_wp2_with fail
  go_ret2
  exact ⟨rfl, rfl⟩
set_option maxHeartbeats 2000000 in
set_option maxRecDepth 20000 in
theorem d_B_b2 (b o cap : Nat) (bs : List UInt8) (i c0 : Nat) (w : World) (hi : i < bs.length) (hn : bs.length ≤ 2000000) (h : Row w b o cap bs) (hc0 : bt bs i = c0) (b1 b2 : Nat) (hb1 : bt bs (i + 1) = b1) (hb2 : bt bs (i + 2) = b2) (hk : 224 ≤ c0 ∧ c0 ≤ 224) (hs : 3 ≤ bs.length - i) (h1 : 160 ≤ b1 ∧ b1 ≤ 191) (h2 : b2 < 128 ∨ 191 < b2) :
    Calls Tryf.prog 36 #[.slice (some ⟨b, o, none⟩) bs.length cap, .int .i64 i] w fun e w' => e = .returned (.tuple #[.int .i32 65533, .int .i64 1]) ∧ w = w' := by
  have H := Lib.hid h
  have ci := h i hi
  have hi' : (i : Int) < (bs.length : Int) := by omega
  clear h
  have hc : c0 < 256 := by rw [← hc0]; exact bt_lt bs i
  rw [hc0] at ci
  clear hc0
  have t0 : decide ((c0 : Int) < 128) = false := decide_eq_false (by omega)
  have t1 : decide ((c0 : Int) < 194) = false := decide_eq_false (by omega)
  have t2 : decide ((244 : Int) < (c0 : Int)) = false := decide_eq_false (by omega)
  have t3 : decide ((c0 : Int) < 224) = false := decide_eq_false (by omega)
  have t4 : decide ((c0 : Int) < 240) = true := decide_eq_true (by omega)
  have t5 : ((c0 : Int) == 224) = true := by simp; omega
  have t6 : ((c0 : Int) == 237) = false := by simp; omega
  have s0 : decide ((bs.length : Int) - (i : Int) < 3) = false := decide_eq_false (by omega)
  have c1 := H.out (i + 1) (by omega)
  have i1 : (i : Int) + 1 < (bs.length : Int) := by omega
  have hx1 : b1 < 256 := by rw [← hb1]; exact bt_lt bs _
  rw [hb1] at c1
  clear hb1
  have c2 := H.out (i + 2) (by omega)
  have i2 : (i : Int) + 2 < (bs.length : Int) := by omega
  have hx2 : b2 < 256 := by rw [← hb2]; exact bt_lt bs _
  rw [hb2] at c2
  clear hb2
  have u1 : decide ((b1 : Int) < 160) = false := decide_eq_false (by omega)
  have u2 : decide ((191 : Int) < (b1 : Int)) = false := decide_eq_false (by omega)
  have K2 := Lib.hid (cont_no b2 w h2)
  go_enter Tryf.func36, Tryf.ntmps36
  go_big_wp2_with (first | (go_at_call 43; refine K2.out.mono ?_; clear K2; rintro e w1 ⟨rfl, rfl⟩))
  go_ret2
  exact ⟨rfl, rfl⟩
set_option maxHeartbeats 2000000 in
set_option maxRecDepth 20000 in
theorem d_B_ok (b o cap : Nat) (bs : List UInt8) (i c0 : Nat) (w : World) (hi : i < bs.length) (hn : bs.length ≤ 2000000) (h : Row w b o cap bs) (hc0 : bt bs i = c0) (b1 b2 : Nat) (hb1 : bt bs (i + 1) = b1) (hb2 : bt bs (i + 2) = b2) (hk : 224 ≤ c0 ∧ c0 ≤ 224) (hs : 3 ≤ bs.length - i) (h1 : 160 ≤ b1 ∧ b1 ≤ 191) (h2 : 128 ≤ b2 ∧ b2 ≤ 191) :
    Calls Tryf.prog 36 #[.slice (some ⟨b, o, none⟩) bs.length cap, .int .i64 i] w fun e w' => e = .returned (.tuple #[.int .i32 ((c0 % 16 * 4096 + b1 % 64 * 64 + b2 % 64 : Nat) : Int), .int .i64 3]) ∧ w = w' := by
  have H := Lib.hid h
  have ci := h i hi
  have hi' : (i : Int) < (bs.length : Int) := by omega
  clear h
  have hc : c0 < 256 := by rw [← hc0]; exact bt_lt bs i
  rw [hc0] at ci
  clear hc0
  have t0 : decide ((c0 : Int) < 128) = false := decide_eq_false (by omega)
  have t1 : decide ((c0 : Int) < 194) = false := decide_eq_false (by omega)
  have t2 : decide ((244 : Int) < (c0 : Int)) = false := decide_eq_false (by omega)
  have t3 : decide ((c0 : Int) < 224) = false := decide_eq_false (by omega)
  have t4 : decide ((c0 : Int) < 240) = true := decide_eq_true (by omega)
  have t5 : ((c0 : Int) == 224) = true := by simp; omega
  have t6 : ((c0 : Int) == 237) = false := by simp; omega
  have s0 : decide ((bs.length : Int) - (i : Int) < 3) = false := decide_eq_false (by omega)
  have c1 := H.out (i + 1) (by omega)
  have i1 : (i : Int) + 1 < (bs.length : Int) := by omega
  have hx1 : b1 < 256 := by rw [← hb1]; exact bt_lt bs _
  rw [hb1] at c1
  clear hb1
  have c2 := H.out (i + 2) (by omega)
  have i2 : (i : Int) + 2 < (bs.length : Int) := by omega
  have hx2 : b2 < 256 := by rw [← hb2]; exact bt_lt bs _
  rw [hb2] at c2
  clear hb2
  have u1 : decide ((b1 : Int) < 160) = false := decide_eq_false (by omega)
  have u2 : decide ((191 : Int) < (b1 : Int)) = false := decide_eq_false (by omega)
  have K2 := Lib.hid (cont_yes b2 w h2)
  go_enter Tryf.func36, Tryf.ntmps36
  go_big_wp2_with (first | (go_at_call 43; refine K2.out.mono ?_; clear K2; rintro e w1 ⟨rfl, rfl⟩))
  go_ret2
  exact ⟨congrArg (fun x => Ending.returned (.tuple #[.int .i32 x, .int .i64 3])) (val3 c0 b1 b2 hc hx1 hx2), rfl⟩
set_option maxHeartbeats 2000000 in
set_option maxRecDepth 20000 in
theorem d_C_short (b o cap : Nat) (bs : List UInt8) (i c0 : Nat) (w : World) (hi : i < bs.length) (hn : bs.length ≤ 2000000) (h : Row w b o cap bs) (hc0 : bt bs i = c0) (hk : 237 ≤ c0 ∧ c0 ≤ 237) (hs : bs.length - i < 3) :
    Calls Tryf.prog 36 #[.slice (some ⟨b, o, none⟩) bs.length cap, .int .i64 i] w fun e w' => e = .returned (.tuple #[.int .i32 65533, .int .i64 1]) ∧ w = w' := by
  have H := Lib.hid h
  have ci := h i hi
  have hi' : (i : Int) < (bs.length : Int) := by omega
  clear h
  have hc : c0 < 256 := by rw [← hc0]; exact bt_lt bs i
  rw [hc0] at ci
  clear hc0
  have t0 : decide ((c0 : Int) < 128) = false := decide_eq_false (by omega)
  have t1 : decide ((c0 : Int) < 194) = false := decide_eq_false (by omega)
  have t2 : decide ((244 : Int) < (c0 : Int)) = false := decide_eq_false (by omega)
  have t3 : decide ((c0 : Int) < 224) = false := decide_eq_false (by omega)
  have t4 : decide ((c0 : Int) < 240) = true := decide_eq_true (by omega)
  have t5 : ((c0 : Int) == 224) = false := by simp; omega
  have t6 : ((c0 : Int) == 237) = true := by simp; omega
  have s0 : decide ((bs.length : Int) - (i : Int) < 3) = true := decide_eq_true (by omega)
  go_enter Tryf.func36, Tryf.ntmps36
  go_big_wp2_with fail
  go_ret2
  exact ⟨rfl, rfl⟩
set_option maxHeartbeats 2000000 in
set_option maxRecDepth 20000 in
theorem d_C_lo (b o cap : Nat) (bs : List UInt8) (i c0 : Nat) (w : World) (hi : i < bs.length) (hn : bs.length ≤ 2000000) (h : Row w b o cap bs) (hc0 : bt bs i = c0) (b1 b2 : Nat) (hb1 : bt bs (i + 1) = b1) (hb2 : bt bs (i + 2) = b2) (hk : 237 ≤ c0 ∧ c0 ≤ 237) (hs : 3 ≤ bs.length - i) (h1 : b1 < 128) :
    Calls Tryf.prog 36 #[.slice (some ⟨b, o, none⟩) bs.length cap, .int .i64 i] w fun e w' => e = .returned (.tuple #[.int .i32 65533, .int .i64 1]) ∧ w = w' := by
  have H := Lib.hid h
  have ci := h i hi
  have hi' : (i : Int) < (bs.length : Int) := by omega
  clear h
  have hc : c0 < 256 := by rw [← hc0]; exact bt_lt bs i
  rw [hc0] at ci
  clear hc0
  have t0 : decide ((c0 : Int) < 128) = false := decide_eq_false (by omega)
  have t1 : decide ((c0 : Int) < 194) = false := decide_eq_false (by omega)
  have t2 : decide ((244 : Int) < (c0 : Int)) = false := decide_eq_false (by omega)
  have t3 : decide ((c0 : Int) < 224) = false := decide_eq_false (by omega)
  have t4 : decide ((c0 : Int) < 240) = true := decide_eq_true (by omega)
  have t5 : ((c0 : Int) == 224) = false := by simp; omega
  have t6 : ((c0 : Int) == 237) = true := by simp; omega
  have s0 : decide ((bs.length : Int) - (i : Int) < 3) = false := decide_eq_false (by omega)
  have c1 := H.out (i + 1) (by omega)
  have i1 : (i : Int) + 1 < (bs.length : Int) := by omega
  have hx1 : b1 < 256 := by rw [← hb1]; exact bt_lt bs _
  rw [hb1] at c1
  clear hb1
  have c2 := H.out (i + 2) (by omega)
  have i2 : (i : Int) + 2 < (bs.length : Int) := by omega
  have hx2 : b2 < 256 := by rw [← hb2]; exact bt_lt bs _
  rw [hb2] at c2
  clear hb2
  have u1 : decide ((b1 : Int) < 128) = true := decide_eq_true (by omega)
  go_enter Tryf.func36, Tryf.ntmps36
  go_big_wp2_with fail
  go_ret2
  exact ⟨rfl, rfl⟩
set_option maxHeartbeats 2000000 in
set_option maxRecDepth 20000 in
theorem d_C_hi (b o cap : Nat) (bs : List UInt8) (i c0 : Nat) (w : World) (hi : i < bs.length) (hn : bs.length ≤ 2000000) (h : Row w b o cap bs) (hc0 : bt bs i = c0) (b1 b2 : Nat) (hb1 : bt bs (i + 1) = b1) (hb2 : bt bs (i + 2) = b2) (hk : 237 ≤ c0 ∧ c0 ≤ 237) (hs : 3 ≤ bs.length - i) (h1 : 159 < b1) :
    Calls Tryf.prog 36 #[.slice (some ⟨b, o, none⟩) bs.length cap, .int .i64 i] w fun e w' => e = .returned (.tuple #[.int .i32 65533, .int .i64 1]) ∧ w = w' := by
  have H := Lib.hid h
  have ci := h i hi
  have hi' : (i : Int) < (bs.length : Int) := by omega
  clear h
  have hc : c0 < 256 := by rw [← hc0]; exact bt_lt bs i
  rw [hc0] at ci
  clear hc0
  have t0 : decide ((c0 : Int) < 128) = false := decide_eq_false (by omega)
  have t1 : decide ((c0 : Int) < 194) = false := decide_eq_false (by omega)
  have t2 : decide ((244 : Int) < (c0 : Int)) = false := decide_eq_false (by omega)
  have t3 : decide ((c0 : Int) < 224) = false := decide_eq_false (by omega)
  have t4 : decide ((c0 : Int) < 240) = true := decide_eq_true (by omega)
  have t5 : ((c0 : Int) == 224) = false := by simp; omega
  have t6 : ((c0 : Int) == 237) = true := by simp; omega
  have s0 : decide ((bs.length : Int) - (i : Int) < 3) = false := decide_eq_false (by omega)
  have c1 := H.out (i + 1) (by omega)
  have i1 : (i : Int) + 1 < (bs.length : Int) := by omega
  have hx1 : b1 < 256 := by rw [← hb1]; exact bt_lt bs _
  rw [hb1] at c1
  clear hb1
  have c2 := H.out (i + 2) (by omega)
  have i2 : (i : Int) + 2 < (bs.length : Int) := by omega
  have hx2 : b2 < 256 := by rw [← hb2]; exact bt_lt bs _
  rw [hb2] at c2
  clear hb2
  have u1 : decide ((b1 : Int) < 128) = false := decide_eq_false (by omega)
  have u2 : decide ((159 : Int) < (b1 : Int)) = true := decide_eq_true (by omega)
  go_enter Tryf.func36, Tryf.ntmps36
  go_big_wp2_with fail
  go_ret2
  exact ⟨rfl, rfl⟩
set_option maxHeartbeats 2000000 in
set_option maxRecDepth 20000 in
theorem d_C_b2 (b o cap : Nat) (bs : List UInt8) (i c0 : Nat) (w : World) (hi : i < bs.length) (hn : bs.length ≤ 2000000) (h : Row w b o cap bs) (hc0 : bt bs i = c0) (b1 b2 : Nat) (hb1 : bt bs (i + 1) = b1) (hb2 : bt bs (i + 2) = b2) (hk : 237 ≤ c0 ∧ c0 ≤ 237) (hs : 3 ≤ bs.length - i) (h1 : 128 ≤ b1 ∧ b1 ≤ 159) (h2 : b2 < 128 ∨ 191 < b2) :
    Calls Tryf.prog 36 #[.slice (some ⟨b, o, none⟩) bs.length cap, .int .i64 i] w fun e w' => e = .returned (.tuple #[.int .i32 65533, .int .i64 1]) ∧ w = w' := by
  have H := Lib.hid h
  have ci := h i hi
  have hi' : (i : Int) < (bs.length : Int) := by omega
  clear h
  have hc : c0 < 256 := by rw [← hc0]; exact bt_lt bs i
  rw [hc0] at ci
  clear hc0
  have t0 : decide ((c0 : Int) < 128) = false := decide_eq_false (by omega)
  have t1 : decide ((c0 : Int) < 194) = false := decide_eq_false (by omega)
  have t2 : decide ((244 : Int) < (c0 : Int)) = false := decide_eq_false (by omega)
  have t3 : decide ((c0 : Int) < 224) = false := decide_eq_false (by omega)
  have t4 : decide ((c0 : Int) < 240) = true := decide_eq_true (by omega)
  have t5 : ((c0 : Int) == 224) = false := by simp; omega
  have t6 : ((c0 : Int) == 237) = true := by simp; omega
  have s0 : decide ((bs.length : Int) - (i : Int) < 3) = false := decide_eq_false (by omega)
  have c1 := H.out (i + 1) (by omega)
  have i1 : (i : Int) + 1 < (bs.length : Int) := by omega
  have hx1 : b1 < 256 := by rw [← hb1]; exact bt_lt bs _
  rw [hb1] at c1
  clear hb1
  have c2 := H.out (i + 2) (by omega)
  have i2 : (i : Int) + 2 < (bs.length : Int) := by omega
  have hx2 : b2 < 256 := by rw [← hb2]; exact bt_lt bs _
  rw [hb2] at c2
  clear hb2
  have u1 : decide ((b1 : Int) < 128) = false := decide_eq_false (by omega)
  have u2 : decide ((159 : Int) < (b1 : Int)) = false := decide_eq_false (by omega)
  have K2 := Lib.hid (cont_no b2 w h2)
  go_enter Tryf.func36, Tryf.ntmps36
  go_big_wp2_with (first | (go_at_call 43; refine K2.out.mono ?_; clear K2; rintro e w1 ⟨rfl, rfl⟩))
  go_ret2
  exact ⟨rfl, rfl⟩
set_option maxHeartbeats 2000000 in
set_option maxRecDepth 20000 in
theorem d_C_ok (b o cap : Nat) (bs : List UInt8) (i c0 : Nat) (w : World) (hi : i < bs.length) (hn : bs.length ≤ 2000000) (h : Row w b o cap bs) (hc0 : bt bs i = c0) (b1 b2 : Nat) (hb1 : bt bs (i + 1) = b1) (hb2 : bt bs (i + 2) = b2) (hk : 237 ≤ c0 ∧ c0 ≤ 237) (hs : 3 ≤ bs.length - i) (h1 : 128 ≤ b1 ∧ b1 ≤ 159) (h2 : 128 ≤ b2 ∧ b2 ≤ 191) :
    Calls Tryf.prog 36 #[.slice (some ⟨b, o, none⟩) bs.length cap, .int .i64 i] w fun e w' => e = .returned (.tuple #[.int .i32 ((c0 % 16 * 4096 + b1 % 64 * 64 + b2 % 64 : Nat) : Int), .int .i64 3]) ∧ w = w' := by
  have H := Lib.hid h
  have ci := h i hi
  have hi' : (i : Int) < (bs.length : Int) := by omega
  clear h
  have hc : c0 < 256 := by rw [← hc0]; exact bt_lt bs i
  rw [hc0] at ci
  clear hc0
  have t0 : decide ((c0 : Int) < 128) = false := decide_eq_false (by omega)
  have t1 : decide ((c0 : Int) < 194) = false := decide_eq_false (by omega)
  have t2 : decide ((244 : Int) < (c0 : Int)) = false := decide_eq_false (by omega)
  have t3 : decide ((c0 : Int) < 224) = false := decide_eq_false (by omega)
  have t4 : decide ((c0 : Int) < 240) = true := decide_eq_true (by omega)
  have t5 : ((c0 : Int) == 224) = false := by simp; omega
  have t6 : ((c0 : Int) == 237) = true := by simp; omega
  have s0 : decide ((bs.length : Int) - (i : Int) < 3) = false := decide_eq_false (by omega)
  have c1 := H.out (i + 1) (by omega)
  have i1 : (i : Int) + 1 < (bs.length : Int) := by omega
  have hx1 : b1 < 256 := by rw [← hb1]; exact bt_lt bs _
  rw [hb1] at c1
  clear hb1
  have c2 := H.out (i + 2) (by omega)
  have i2 : (i : Int) + 2 < (bs.length : Int) := by omega
  have hx2 : b2 < 256 := by rw [← hb2]; exact bt_lt bs _
  rw [hb2] at c2
  clear hb2
  have u1 : decide ((b1 : Int) < 128) = false := decide_eq_false (by omega)
  have u2 : decide ((159 : Int) < (b1 : Int)) = false := decide_eq_false (by omega)
  have K2 := Lib.hid (cont_yes b2 w h2)
  go_enter Tryf.func36, Tryf.ntmps36
  go_big_wp2_with (first | (go_at_call 43; refine K2.out.mono ?_; clear K2; rintro e w1 ⟨rfl, rfl⟩))
  go_ret2
  exact ⟨congrArg (fun x => Ending.returned (.tuple #[.int .i32 x, .int .i64 3])) (val3 c0 b1 b2 hc hx1 hx2), rfl⟩
set_option maxHeartbeats 2000000 in
set_option maxRecDepth 20000 in
theorem d_Da_short (b o cap : Nat) (bs : List UInt8) (i c0 : Nat) (w : World) (hi : i < bs.length) (hn : bs.length ≤ 2000000) (h : Row w b o cap bs) (hc0 : bt bs i = c0) (hk : 225 ≤ c0 ∧ c0 ≤ 236) (hs : bs.length - i < 3) :
    Calls Tryf.prog 36 #[.slice (some ⟨b, o, none⟩) bs.length cap, .int .i64 i] w fun e w' => e = .returned (.tuple #[.int .i32 65533, .int .i64 1]) ∧ w = w' := by
  have H := Lib.hid h
  have ci := h i hi
  have hi' : (i : Int) < (bs.length : Int) := by omega
  clear h
  have hc : c0 < 256 := by rw [← hc0]; exact bt_lt bs i
  rw [hc0] at ci
  clear hc0
  have t0 : decide ((c0 : Int) < 128) = false := decide_eq_false (by omega)
  have t1 : decide ((c0 : Int) < 194) = false := decide_eq_false (by omega)
  have t2 : decide ((244 : Int) < (c0 : Int)) = false := decide_eq_false (by omega)
  have t3 : decide ((c0 : Int) < 224) = false := decide_eq_false (by omega)
  have t4 : decide ((c0 : Int) < 240) = true := decide_eq_true (by omega)
  have t5 : ((c0 : Int) == 224) = false := by simp; omega
  have t6 : ((c0 : Int) == 237) = false := by simp; omega
  have s0 : decide ((bs.length : Int) - (i : Int) < 3) = true := decide_eq_true (by omega)
  go_enter Tryf.func36, Tryf.ntmps36
  go_big_wp2_with fail
  go_ret2
  exact ⟨rfl, rfl⟩
set_option maxHeartbeats 2000000 in
set_option maxRecDepth 20000 in
theorem d_Da_lo (b o cap : Nat) (bs : List UInt8) (i c0 : Nat) (w : World) (hi : i < bs.length) (hn : bs.length ≤ 2000000) (h : Row w b o cap bs) (hc0 : bt bs i = c0) (b1 b2 : Nat) (hb1 : bt bs (i + 1) = b1) (hb2 : bt bs (i + 2) = b2) (hk : 225 ≤ c0 ∧ c0 ≤ 236) (hs : 3 ≤ bs.length - i) (h1 : b1 < 128) :
    Calls Tryf.prog 36 #[.slice (some ⟨b, o, none⟩) bs.length cap, .int .i64 i] w fun e w' => e = .returned (.tuple #[.int .i32 65533, .int .i64 1]) ∧ w = w' := by
  have H := Lib.hid h
  have ci := h i hi
  have hi' : (i : Int) < (bs.length : Int) := by omega
  clear h
  have hc : c0 < 256 := by rw [← hc0]; exact bt_lt bs i
  rw [hc0] at ci
  clear hc0
  have t0 : decide ((c0 : Int) < 128) = false := decide_eq_false (by omega)
  have t1 : decide ((c0 : Int) < 194) = false := decide_eq_false (by omega)
  have t2 : decide ((244 : Int) < (c0 : Int)) = false := decide_eq_false (by omega)
  have t3 : decide ((c0 : Int) < 224) = false := decide_eq_false (by omega)
  have t4 : decide ((c0 : Int) < 240) = true := decide_eq_true (by omega)
  have t5 : ((c0 : Int) == 224) = false := by simp; omega
  have t6 : ((c0 : Int) == 237) = false := by simp; omega
  have s0 : decide ((bs.length : Int) - (i : Int) < 3) = false := decide_eq_false (by omega)
  have c1 := H.out (i + 1) (by omega)
  have i1 : (i : Int) + 1 < (bs.length : Int) := by omega
  have hx1 : b1 < 256 := by rw [← hb1]; exact bt_lt bs _
  rw [hb1] at c1
  clear hb1
  have c2 := H.out (i + 2) (by omega)
  have i2 : (i : Int) + 2 < (bs.length : Int) := by omega
  have hx2 : b2 < 256 := by rw [← hb2]; exact bt_lt bs _
  rw [hb2] at c2
  clear hb2
  have u1 : decide ((b1 : Int) < 128) = true := decide_eq_true (by omega)
  go_enter Tryf.func36, Tryf.ntmps36
  go_big_wp2_with fail
  go_ret2
  exact ⟨rfl, rfl⟩
set_option maxHeartbeats 2000000 in
set_option maxRecDepth 20000 in
theorem d_Da_hi (b o cap : Nat) (bs : List UInt8) (i c0 : Nat) (w : World) (hi : i < bs.length) (hn : bs.length ≤ 2000000) (h : Row w b o cap bs) (hc0 : bt bs i = c0) (b1 b2 : Nat) (hb1 : bt bs (i + 1) = b1) (hb2 : bt bs (i + 2) = b2) (hk : 225 ≤ c0 ∧ c0 ≤ 236) (hs : 3 ≤ bs.length - i) (h1 : 191 < b1) :
    Calls Tryf.prog 36 #[.slice (some ⟨b, o, none⟩) bs.length cap, .int .i64 i] w fun e w' => e = .returned (.tuple #[.int .i32 65533, .int .i64 1]) ∧ w = w' := by
  have H := Lib.hid h
  have ci := h i hi
  have hi' : (i : Int) < (bs.length : Int) := by omega
  clear h
  have hc : c0 < 256 := by rw [← hc0]; exact bt_lt bs i
  rw [hc0] at ci
  clear hc0
  have t0 : decide ((c0 : Int) < 128) = false := decide_eq_false (by omega)
  have t1 : decide ((c0 : Int) < 194) = false := decide_eq_false (by omega)
  have t2 : decide ((244 : Int) < (c0 : Int)) = false := decide_eq_false (by omega)
  have t3 : decide ((c0 : Int) < 224) = false := decide_eq_false (by omega)
  have t4 : decide ((c0 : Int) < 240) = true := decide_eq_true (by omega)
  have t5 : ((c0 : Int) == 224) = false := by simp; omega
  have t6 : ((c0 : Int) == 237) = false := by simp; omega
  have s0 : decide ((bs.length : Int) - (i : Int) < 3) = false := decide_eq_false (by omega)
  have c1 := H.out (i + 1) (by omega)
  have i1 : (i : Int) + 1 < (bs.length : Int) := by omega
  have hx1 : b1 < 256 := by rw [← hb1]; exact bt_lt bs _
  rw [hb1] at c1
  clear hb1
  have c2 := H.out (i + 2) (by omega)
  have i2 : (i : Int) + 2 < (bs.length : Int) := by omega
  have hx2 : b2 < 256 := by rw [← hb2]; exact bt_lt bs _
  rw [hb2] at c2
  clear hb2
  have u1 : decide ((b1 : Int) < 128) = false := decide_eq_false (by omega)
  have u2 : decide ((191 : Int) < (b1 : Int)) = true := decide_eq_true (by omega)
  go_enter Tryf.func36, Tryf.ntmps36
  go_big_wp2_with fail
  go_ret2
  exact ⟨rfl, rfl⟩
set_option maxHeartbeats 2000000 in
set_option maxRecDepth 20000 in
theorem d_Da_b2 (b o cap : Nat) (bs : List UInt8) (i c0 : Nat) (w : World) (hi : i < bs.length) (hn : bs.length ≤ 2000000) (h : Row w b o cap bs) (hc0 : bt bs i = c0) (b1 b2 : Nat) (hb1 : bt bs (i + 1) = b1) (hb2 : bt bs (i + 2) = b2) (hk : 225 ≤ c0 ∧ c0 ≤ 236) (hs : 3 ≤ bs.length - i) (h1 : 128 ≤ b1 ∧ b1 ≤ 191) (h2 : b2 < 128 ∨ 191 < b2) :
    Calls Tryf.prog 36 #[.slice (some ⟨b, o, none⟩) bs.length cap, .int .i64 i] w fun e w' => e = .returned (.tuple #[.int .i32 65533, .int .i64 1]) ∧ w = w' := by
  have H := Lib.hid h
  have ci := h i hi
  have hi' : (i : Int) < (bs.length : Int) := by omega
  clear h
  have hc : c0 < 256 := by rw [← hc0]; exact bt_lt bs i
  rw [hc0] at ci
  clear hc0
  have t0 : decide ((c0 : Int) < 128) = false := decide_eq_false (by omega)
  have t1 : decide ((c0 : Int) < 194) = false := decide_eq_false (by omega)
  have t2 : decide ((244 : Int) < (c0 : Int)) = false := decide_eq_false (by omega)
  have t3 : decide ((c0 : Int) < 224) = false := decide_eq_false (by omega)
  have t4 : decide ((c0 : Int) < 240) = true := decide_eq_true (by omega)
  have t5 : ((c0 : Int) == 224) = false := by simp; omega
  have t6 : ((c0 : Int) == 237) = false := by simp; omega
  have s0 : decide ((bs.length : Int) - (i : Int) < 3) = false := decide_eq_false (by omega)
  have c1 := H.out (i + 1) (by omega)
  have i1 : (i : Int) + 1 < (bs.length : Int) := by omega
  have hx1 : b1 < 256 := by rw [← hb1]; exact bt_lt bs _
  rw [hb1] at c1
  clear hb1
  have c2 := H.out (i + 2) (by omega)
  have i2 : (i : Int) + 2 < (bs.length : Int) := by omega
  have hx2 : b2 < 256 := by rw [← hb2]; exact bt_lt bs _
  rw [hb2] at c2
  clear hb2
  have u1 : decide ((b1 : Int) < 128) = false := decide_eq_false (by omega)
  have u2 : decide ((191 : Int) < (b1 : Int)) = false := decide_eq_false (by omega)
  have K2 := Lib.hid (cont_no b2 w h2)
  go_enter Tryf.func36, Tryf.ntmps36
  go_big_wp2_with (first | (go_at_call 43; refine K2.out.mono ?_; clear K2; rintro e w1 ⟨rfl, rfl⟩))
  go_ret2
  exact ⟨rfl, rfl⟩
set_option maxHeartbeats 2000000 in
set_option maxRecDepth 20000 in
theorem d_Da_ok (b o cap : Nat) (bs : List UInt8) (i c0 : Nat) (w : World) (hi : i < bs.length) (hn : bs.length ≤ 2000000) (h : Row w b o cap bs) (hc0 : bt bs i = c0) (b1 b2 : Nat) (hb1 : bt bs (i + 1) = b1) (hb2 : bt bs (i + 2) = b2) (hk : 225 ≤ c0 ∧ c0 ≤ 236) (hs : 3 ≤ bs.length - i) (h1 : 128 ≤ b1 ∧ b1 ≤ 191) (h2 : 128 ≤ b2 ∧ b2 ≤ 191) :
    Calls Tryf.prog 36 #[.slice (some ⟨b, o, none⟩) bs.length cap, .int .i64 i] w fun e w' => e = .returned (.tuple #[.int .i32 ((c0 % 16 * 4096 + b1 % 64 * 64 + b2 % 64 : Nat) : Int), .int .i64 3]) ∧ w = w' := by
  have H := Lib.hid h
  have ci := h i hi
  have hi' : (i : Int) < (bs.length : Int) := by omega
  clear h
  have hc : c0 < 256 := by rw [← hc0]; exact bt_lt bs i
  rw [hc0] at ci
  clear hc0
  have t0 : decide ((c0 : Int) < 128) = false := decide_eq_false (by omega)
  have t1 : decide ((c0 : Int) < 194) = false := decide_eq_false (by omega)
  have t2 : decide ((244 : Int) < (c0 : Int)) = false := decide_eq_false (by omega)
  have t3 : decide ((c0 : Int) < 224) = false := decide_eq_false (by omega)
  have t4 : decide ((c0 : Int) < 240) = true := decide_eq_true (by omega)
  have t5 : ((c0 : Int) == 224) = false := by simp; omega
  have t6 : ((c0 : Int) == 237) = false := by simp; omega
  have s0 : decide ((bs.length : Int) - (i : Int) < 3) = false := decide_eq_false (by omega)
  have c1 := H.out (i + 1) (by omega)
  have i1 : (i : Int) + 1 < (bs.length : Int) := by omega
  have hx1 : b1 < 256 := by rw [← hb1]; exact bt_lt bs _
  rw [hb1] at c1
  clear hb1
  have c2 := H.out (i + 2) (by omega)
  have i2 : (i : Int) + 2 < (bs.length : Int) := by omega
  have hx2 : b2 < 256 := by rw [← hb2]; exact bt_lt bs _
  rw [hb2] at c2
  clear hb2
  have u1 : decide ((b1 : Int) < 128) = false := decide_eq_false (by omega)
  have u2 : decide ((191 : Int) < (b1 : Int)) = false := decide_eq_false (by omega)
  have K2 := Lib.hid (cont_yes b2 w h2)
  go_enter Tryf.func36, Tryf.ntmps36
  go_big_wp2_with (first | (go_at_call 43; refine K2.out.mono ?_; clear K2; rintro e w1 ⟨rfl, rfl⟩))
  go_ret2
  exact ⟨congrArg (fun x => Ending.returned (.tuple #[.int .i32 x, .int .i64 3])) (val3 c0 b1 b2 hc hx1 hx2), rfl⟩
set_option maxHeartbeats 2000000 in
set_option maxRecDepth 20000 in
theorem d_Db_short (b o cap : Nat) (bs : List UInt8) (i c0 : Nat) (w : World) (hi : i < bs.length) (hn : bs.length ≤ 2000000) (h : Row w b o cap bs) (hc0 : bt bs i = c0) (hk : 238 ≤ c0 ∧ c0 ≤ 239) (hs : bs.length - i < 3) :
    Calls Tryf.prog 36 #[.slice (some ⟨b, o, none⟩) bs.length cap, .int .i64 i] w fun e w' => e = .returned (.tuple #[.int .i32 65533, .int .i64 1]) ∧ w = w' := by
  have H := Lib.hid h
  have ci := h i hi
  have hi' : (i : Int) < (bs.length : Int) := by omega
  clear h
  have hc : c0 < 256 := by rw [← hc0]; exact bt_lt bs i
  rw [hc0] at ci
  clear hc0
  have t0 : decide ((c0 : Int) < 128) = false := decide_eq_false (by omega)
  have t1 : decide ((c0 : Int) < 194) = false := decide_eq_false (by omega)
  have t2 : decide ((244 : Int) < (c0 : Int)) = false := decide_eq_false (by omega)
  have t3 : decide ((c0 : Int) < 224) = false := decide_eq_false (by omega)
  have t4 : decide ((c0 : Int) < 240) = true := decide_eq_true (by omega)
  have t5 : ((c0 : Int) == 224) = false := by simp; omega
  have t6 : ((c0 : Int) == 237) = false := by simp; omega
  have s0 : decide ((bs.length : Int) - (i : Int) < 3) = true := decide_eq_true (by omega)
  go_enter Tryf.func36, Tryf.ntmps36
  go_big_wp2_with fail
  go_ret2
  exact ⟨rfl, rfl⟩
set_option maxHeartbeats 2000000 in
set_option maxRecDepth 20000 in
theorem d_Db_lo (b o cap : Nat) (bs : List UInt8) (i c0 : Nat) (w : World) (hi : i < bs.length) (hn : bs.length ≤ 2000000) (h : Row w b o cap bs) (hc0 : bt bs i = c0) (b1 b2 : Nat) (hb1 : bt bs (i + 1) = b1) (hb2 : bt bs (i + 2) = b2) (hk : 238 ≤ c0 ∧ c0 ≤ 239) (hs : 3 ≤ bs.length - i) (h1 : b1 < 128) :
    Calls Tryf.prog 36 #[.slice (some ⟨b, o, none⟩) bs.length cap, .int .i64 i] w fun e w' => e = .returned (.tuple #[.int .i32 65533, .int .i64 1]) ∧ w = w' := by
  have H := Lib.hid h
  have ci := h i hi
  have hi' : (i : Int) < (bs.length : Int) := by omega
  clear h
  have hc : c0 < 256 := by rw [← hc0]; exact bt_lt bs i
  rw [hc0] at ci
  clear hc0
  have t0 : decide ((c0 : Int) < 128) = false := decide_eq_false (by omega)
  have t1 : decide ((c0 : Int) < 194) = false := decide_eq_false (by omega)
  have t2 : decide ((244 : Int) < (c0 : Int)) = false := decide_eq_false (by omega)
  have t3 : decide ((c0 : Int) < 224) = false := decide_eq_false (by omega)
  have t4 : decide ((c0 : Int) < 240) = true := decide_eq_true (by omega)
  have t5 : ((c0 : Int) == 224) = false := by simp; omega
  have t6 : ((c0 : Int) == 237) = false := by simp; omega
  have s0 : decide ((bs.length : Int) - (i : Int) < 3) = false := decide_eq_false (by omega)
  have c1 := H.out (i + 1) (by omega)
  have i1 : (i : Int) + 1 < (bs.length : Int) := by omega
  have hx1 : b1 < 256 := by rw [← hb1]; exact bt_lt bs _
  rw [hb1] at c1
  clear hb1
  have c2 := H.out (i + 2) (by omega)
  have i2 : (i : Int) + 2 < (bs.length : Int) := by omega
  have hx2 : b2 < 256 := by rw [← hb2]; exact bt_lt bs _
  rw [hb2] at c2
  clear hb2
  have u1 : decide ((b1 : Int) < 128) = true := decide_eq_true (by omega)
  go_enter Tryf.func36, Tryf.ntmps36
  go_big_wp2_with fail
  go_ret2
  exact ⟨rfl, rfl⟩
set_option maxHeartbeats 2000000 in
set_option maxRecDepth 20000 in
theorem d_Db_hi (b o cap : Nat) (bs : List UInt8) (i c0 : Nat) (w : World) (hi : i < bs.length) (hn : bs.length ≤ 2000000) (h : Row w b o cap bs) (hc0 : bt bs i = c0) (b1 b2 : Nat) (hb1 : bt bs (i + 1) = b1) (hb2 : bt bs (i + 2) = b2) (hk : 238 ≤ c0 ∧ c0 ≤ 239) (hs : 3 ≤ bs.length - i) (h1 : 191 < b1) :
    Calls Tryf.prog 36 #[.slice (some ⟨b, o, none⟩) bs.length cap, .int .i64 i] w fun e w' => e = .returned (.tuple #[.int .i32 65533, .int .i64 1]) ∧ w = w' := by
  have H := Lib.hid h
  have ci := h i hi
  have hi' : (i : Int) < (bs.length : Int) := by omega
  clear h
  have hc : c0 < 256 := by rw [← hc0]; exact bt_lt bs i
  rw [hc0] at ci
  clear hc0
  have t0 : decide ((c0 : Int) < 128) = false := decide_eq_false (by omega)
  have t1 : decide ((c0 : Int) < 194) = false := decide_eq_false (by omega)
  have t2 : decide ((244 : Int) < (c0 : Int)) = false := decide_eq_false (by omega)
  have t3 : decide ((c0 : Int) < 224) = false := decide_eq_false (by omega)
  have t4 : decide ((c0 : Int) < 240) = true := decide_eq_true (by omega)
  have t5 : ((c0 : Int) == 224) = false := by simp; omega
  have t6 : ((c0 : Int) == 237) = false := by simp; omega
  have s0 : decide ((bs.length : Int) - (i : Int) < 3) = false := decide_eq_false (by omega)
  have c1 := H.out (i + 1) (by omega)
  have i1 : (i : Int) + 1 < (bs.length : Int) := by omega
  have hx1 : b1 < 256 := by rw [← hb1]; exact bt_lt bs _
  rw [hb1] at c1
  clear hb1
  have c2 := H.out (i + 2) (by omega)
  have i2 : (i : Int) + 2 < (bs.length : Int) := by omega
  have hx2 : b2 < 256 := by rw [← hb2]; exact bt_lt bs _
  rw [hb2] at c2
  clear hb2
  have u1 : decide ((b1 : Int) < 128) = false := decide_eq_false (by omega)
  have u2 : decide ((191 : Int) < (b1 : Int)) = true := decide_eq_true (by omega)
  go_enter Tryf.func36, Tryf.ntmps36
  go_big_wp2_with fail
  go_ret2
  exact ⟨rfl, rfl⟩
set_option maxHeartbeats 2000000 in
set_option maxRecDepth 20000 in
theorem d_Db_b2 (b o cap : Nat) (bs : List UInt8) (i c0 : Nat) (w : World) (hi : i < bs.length) (hn : bs.length ≤ 2000000) (h : Row w b o cap bs) (hc0 : bt bs i = c0) (b1 b2 : Nat) (hb1 : bt bs (i + 1) = b1) (hb2 : bt bs (i + 2) = b2) (hk : 238 ≤ c0 ∧ c0 ≤ 239) (hs : 3 ≤ bs.length - i) (h1 : 128 ≤ b1 ∧ b1 ≤ 191) (h2 : b2 < 128 ∨ 191 < b2) :
    Calls Tryf.prog 36 #[.slice (some ⟨b, o, none⟩) bs.length cap, .int .i64 i] w fun e w' => e = .returned (.tuple #[.int .i32 65533, .int .i64 1]) ∧ w = w' := by
  have H := Lib.hid h
  have ci := h i hi
  have hi' : (i : Int) < (bs.length : Int) := by omega
  clear h
  have hc : c0 < 256 := by rw [← hc0]; exact bt_lt bs i
  rw [hc0] at ci
  clear hc0
  have t0 : decide ((c0 : Int) < 128) = false := decide_eq_false (by omega)
  have t1 : decide ((c0 : Int) < 194) = false := decide_eq_false (by omega)
  have t2 : decide ((244 : Int) < (c0 : Int)) = false := decide_eq_false (by omega)
  have t3 : decide ((c0 : Int) < 224) = false := decide_eq_false (by omega)
  have t4 : decide ((c0 : Int) < 240) = true := decide_eq_true (by omega)
  have t5 : ((c0 : Int) == 224) = false := by simp; omega
  have t6 : ((c0 : Int) == 237) = false := by simp; omega
  have s0 : decide ((bs.length : Int) - (i : Int) < 3) = false := decide_eq_false (by omega)
  have c1 := H.out (i + 1) (by omega)
  have i1 : (i : Int) + 1 < (bs.length : Int) := by omega
  have hx1 : b1 < 256 := by rw [← hb1]; exact bt_lt bs _
  rw [hb1] at c1
  clear hb1
  have c2 := H.out (i + 2) (by omega)
  have i2 : (i : Int) + 2 < (bs.length : Int) := by omega
  have hx2 : b2 < 256 := by rw [← hb2]; exact bt_lt bs _
  rw [hb2] at c2
  clear hb2
  have u1 : decide ((b1 : Int) < 128) = false := decide_eq_false (by omega)
  have u2 : decide ((191 : Int) < (b1 : Int)) = false := decide_eq_false (by omega)
  have K2 := Lib.hid (cont_no b2 w h2)
  go_enter Tryf.func36, Tryf.ntmps36
  go_big_wp2_with (first | (go_at_call 43; refine K2.out.mono ?_; clear K2; rintro e w1 ⟨rfl, rfl⟩))
  go_ret2
  exact ⟨rfl, rfl⟩
set_option maxHeartbeats 2000000 in
set_option maxRecDepth 20000 in
theorem d_Db_ok (b o cap : Nat) (bs : List UInt8) (i c0 : Nat) (w : World) (hi : i < bs.length) (hn : bs.length ≤ 2000000) (h : Row w b o cap bs) (hc0 : bt bs i = c0) (b1 b2 : Nat) (hb1 : bt bs (i + 1) = b1) (hb2 : bt bs (i + 2) = b2) (hk : 238 ≤ c0 ∧ c0 ≤ 239) (hs : 3 ≤ bs.length - i) (h1 : 128 ≤ b1 ∧ b1 ≤ 191) (h2 : 128 ≤ b2 ∧ b2 ≤ 191) :
    Calls Tryf.prog 36 #[.slice (some ⟨b, o, none⟩) bs.length cap, .int .i64 i] w fun e w' => e = .returned (.tuple #[.int .i32 ((c0 % 16 * 4096 + b1 % 64 * 64 + b2 % 64 : Nat) : Int), .int .i64 3]) ∧ w = w' := by
  have H := Lib.hid h
  have ci := h i hi
  have hi' : (i : Int) < (bs.length : Int) := by omega
  clear h
  have hc : c0 < 256 := by rw [← hc0]; exact bt_lt bs i
  rw [hc0] at ci
  clear hc0
  have t0 : decide ((c0 : Int) < 128) = false := decide_eq_false (by omega)
  have t1 : decide ((c0 : Int) < 194) = false := decide_eq_false (by omega)
  have t2 : decide ((244 : Int) < (c0 : Int)) = false := decide_eq_false (by omega)
  have t3 : decide ((c0 : Int) < 224) = false := decide_eq_false (by omega)
  have t4 : decide ((c0 : Int) < 240) = true := decide_eq_true (by omega)
  have t5 : ((c0 : Int) == 224) = false := by simp; omega
  have t6 : ((c0 : Int) == 237) = false := by simp; omega
  have s0 : decide ((bs.length : Int) - (i : Int) < 3) = false := decide_eq_false (by omega)
  have c1 := H.out (i + 1) (by omega)
  have i1 : (i : Int) + 1 < (bs.length : Int) := by omega
  have hx1 : b1 < 256 := by rw [← hb1]; exact bt_lt bs _
  rw [hb1] at c1
  clear hb1
  have c2 := H.out (i + 2) (by omega)
  have i2 : (i : Int) + 2 < (bs.length : Int) := by omega
  have hx2 : b2 < 256 := by rw [← hb2]; exact bt_lt bs _
  rw [hb2] at c2
  clear hb2
  have u1 : decide ((b1 : Int) < 128) = false := decide_eq_false (by omega)
  have u2 : decide ((191 : Int) < (b1 : Int)) = false := decide_eq_false (by omega)
  have K2 := Lib.hid (cont_yes b2 w h2)
  go_enter Tryf.func36, Tryf.ntmps36
  go_big_wp2_with (first | (go_at_call 43; refine K2.out.mono ?_; clear K2; rintro e w1 ⟨rfl, rfl⟩))
  go_ret2
  exact ⟨congrArg (fun x => Ending.returned (.tuple #[.int .i32 x, .int .i64 3])) (val3 c0 b1 b2 hc hx1 hx2), rfl⟩
set_option maxHeartbeats 2000000 in
set_option maxRecDepth 20000 in
theorem d_E_short (b o cap : Nat) (bs : List UInt8) (i c0 : Nat) (w : World) (hi : i < bs.length) (hn : bs.length ≤ 2000000) (h : Row w b o cap bs) (hc0 : bt bs i = c0) (hk : 240 ≤ c0 ∧ c0 ≤ 240) (hs : bs.length - i < 4) :
    Calls Tryf.prog 36 #[.slice (some ⟨b, o, none⟩) bs.length cap, .int .i64 i] w fun e w' => e = .returned (.tuple #[.int .i32 65533, .int .i64 1]) ∧ w = w' := by
  have H := Lib.hid h
  have ci := h i hi
  have hi' : (i : Int) < (bs.length : Int) := by omega
  clear h
  have hc : c0 < 256 := by rw [← hc0]; exact bt_lt bs i
  rw [hc0] at ci
  clear hc0
  have t0 : decide ((c0 : Int) < 128) = false := decide_eq_false (by omega)
  have t1 : decide ((c0 : Int) < 194) = false := decide_eq_false (by omega)
  have t2 : decide ((244 : Int) < (c0 : Int)) = false := decide_eq_false (by omega)
  have t3 : decide ((c0 : Int) < 224) = false := decide_eq_false (by omega)
  have t4 : decide ((c0 : Int) < 240) = false := decide_eq_false (by omega)
  have t5 : ((c0 : Int) == 240) = true := by simp; omega
  have t6 : ((c0 : Int) == 244) = false := by simp; omega
  have s0 : decide ((bs.length : Int) - (i : Int) < 4) = true := decide_eq_true (by omega)
  go_enter Tryf.func36, Tryf.ntmps36
  go_big_wp2_with fail
  go_ret2
  exact ⟨rfl, rfl⟩
set_option maxHeartbeats 2000000 in
set_option maxRecDepth 20000 in
theorem d_E_lo (b o cap : Nat) (bs : List UInt8) (i c0 : Nat) (w : World) (hi : i < bs.length) (hn : bs.length ≤ 2000000) (h : Row w b o cap bs) (hc0 : bt bs i = c0) (b1 b2 b3 : Nat) (hb1 : bt bs (i + 1) = b1) (hb2 : bt bs (i + 2) = b2) (hb3 : bt bs (i + 3) = b3) (hk : 240 ≤ c0 ∧ c0 ≤ 240) (hs : 4 ≤ bs.length - i) (h1 : b1 < 144) :
    Calls Tryf.prog 36 #[.slice (some ⟨b, o, none⟩) bs.length cap, .int .i64 i] w fun e w' => e = .returned (.tuple #[.int .i32 65533, .int .i64 1]) ∧ w = w' := by
  have H := Lib.hid h
  have ci := h i hi
  have hi' : (i : Int) < (bs.length : Int) := by omega
  clear h
  have hc : c0 < 256 := by rw [← hc0]; exact bt_lt bs i
  rw [hc0] at ci
  clear hc0
  have t0 : decide ((c0 : Int) < 128) = false := decide_eq_false (by omega)
  have t1 : decide ((c0 : Int) < 194) = false := decide_eq_false (by omega)
  have t2 : decide ((244 : Int) < (c0 : Int)) = false := decide_eq_false (by omega)
  have t3 : decide ((c0 : Int) < 224) = false := decide_eq_false (by omega)
  have t4 : decide ((c0 : Int) < 240) = false := decide_eq_false (by omega)
  have t5 : ((c0 : Int) == 240) = true := by simp; omega
  have t6 : ((c0 : Int) == 244) = false := by simp; omega
  have s0 : decide ((bs.length : Int) - (i : Int) < 4) = false := decide_eq_false (by omega)
  have c1 := H.out (i + 1) (by omega)
  have i1 : (i : Int) + 1 < (bs.length : Int) := by omega
  have hx1 : b1 < 256 := by rw [← hb1]; exact bt_lt bs _
  rw [hb1] at c1
  clear hb1
  have c2 := H.out (i + 2) (by omega)
  have i2 : (i : Int) + 2 < (bs.length : Int) := by omega
  have hx2 : b2 < 256 := by rw [← hb2]; exact bt_lt bs _
  rw [hb2] at c2
  clear hb2
  have c3 := H.out (i + 3) (by omega)
  have i3 : (i : Int) + 3 < (bs.length : Int) := by omega
  have hx3 : b3 < 256 := by rw [← hb3]; exact bt_lt bs _
  rw [hb3] at c3
  clear hb3
  have u1 : decide ((b1 : Int) < 144) = true := decide_eq_true (by omega)
  go_enter Tryf.func36, Tryf.ntmps36
  go_big_wp2_with fail
  go_ret2
  exact ⟨rfl, rfl⟩
set_option maxHeartbeats 2000000 in
set_option maxRecDepth 20000 in
theorem d_E_hi (b o cap : Nat) (bs : List UInt8) (i c0 : Nat) (w : World) (hi : i < bs.length) (hn : bs.length ≤ 2000000) (h : Row w b o cap bs) (hc0 : bt bs i = c0) (b1 b2 b3 : Nat) (hb1 : bt bs (i + 1) = b1) (hb2 : bt bs (i + 2) = b2) (hb3 : bt bs (i + 3) = b3) (hk : 240 ≤ c0 ∧ c0 ≤ 240) (hs : 4 ≤ bs.length - i) (h1 : 191 < b1) :
    Calls Tryf.prog 36 #[.slice (some ⟨b, o, none⟩) bs.length cap, .int .i64 i] w fun e w' => e = .returned (.tuple #[.int .i32 65533, .int .i64 1]) ∧ w = w' := by
  have H := Lib.hid h
  have ci := h i hi
  have hi' : (i : Int) < (bs.length : Int) := by omega
  clear h
  have hc : c0 < 256 := by rw [← hc0]; exact bt_lt bs i
  rw [hc0] at ci
  clear hc0
  have t0 : decide ((c0 : Int) < 128) = false := decide_eq_false (by omega)
  have t1 : decide ((c0 : Int) < 194) = false := decide_eq_false (by omega)
  have t2 : decide ((244 : Int) < (c0 : Int)) = false := decide_eq_false (by omega)
  have t3 : decide ((c0 : Int) < 224) = false := decide_eq_false (by omega)
  have t4 : decide ((c0 : Int) < 240) = false := decide_eq_false (by omega)
  have t5 : ((c0 : Int) == 240) = true := by simp; omega
  have t6 : ((c0 : Int) == 244) = false := by simp; omega
  have s0 : decide ((bs.length : Int) - (i : Int) < 4) = false := decide_eq_false (by omega)
  have c1 := H.out (i + 1) (by omega)
  have i1 : (i : Int) + 1 < (bs.length : Int) := by omega
  have hx1 : b1 < 256 := by rw [← hb1]; exact bt_lt bs _
  rw [hb1] at c1
  clear hb1
  have c2 := H.out (i + 2) (by omega)
  have i2 : (i : Int) + 2 < (bs.length : Int) := by omega
  have hx2 : b2 < 256 := by rw [← hb2]; exact bt_lt bs _
  rw [hb2] at c2
  clear hb2
  have c3 := H.out (i + 3) (by omega)
  have i3 : (i : Int) + 3 < (bs.length : Int) := by omega
  have hx3 : b3 < 256 := by rw [← hb3]; exact bt_lt bs _
  rw [hb3] at c3
  clear hb3
  have u1 : decide ((b1 : Int) < 144) = false := decide_eq_false (by omega)
  have u2 : decide ((191 : Int) < (b1 : Int)) = true := decide_eq_true (by omega)
  go_enter Tryf.func36, Tryf.ntmps36
  go_big_wp2_with fail
  go_ret2
  exact ⟨rfl, rfl⟩
set_option maxHeartbeats 2000000 in
set_option maxRecDepth 20000 in
theorem d_E_b2 (b o cap : Nat) (bs : List UInt8) (i c0 : Nat) (w : World) (hi : i < bs.length) (hn : bs.length ≤ 2000000) (h : Row w b o cap bs) (hc0 : bt bs i = c0) (b1 b2 b3 : Nat) (hb1 : bt bs (i + 1) = b1) (hb2 : bt bs (i + 2) = b2) (hb3 : bt bs (i + 3) = b3) (hk : 240 ≤ c0 ∧ c0 ≤ 240) (hs : 4 ≤ bs.length - i) (h1 : 144 ≤ b1 ∧ b1 ≤ 191) (h2 : b2 < 128 ∨ 191 < b2) :
    Calls Tryf.prog 36 #[.slice (some ⟨b, o, none⟩) bs.length cap, .int .i64 i] w fun e w' => e = .returned (.tuple #[.int .i32 65533, .int .i64 1]) ∧ w = w' := by
  have H := Lib.hid h
  have ci := h i hi
  have hi' : (i : Int) < (bs.length : Int) := by omega
  clear h
  have hc : c0 < 256 := by rw [← hc0]; exact bt_lt bs i
  rw [hc0] at ci
  clear hc0
  have t0 : decide ((c0 : Int) < 128) = false := decide_eq_false (by omega)
  have t1 : decide ((c0 : Int) < 194) = false := decide_eq_false (by omega)
  have t2 : decide ((244 : Int) < (c0 : Int)) = false := decide_eq_false (by omega)
  have t3 : decide ((c0 : Int) < 224) = false := decide_eq_false (by omega)
  have t4 : decide ((c0 : Int) < 240) = false := decide_eq_false (by omega)
  have t5 : ((c0 : Int) == 240) = true := by simp; omega
  have t6 : ((c0 : Int) == 244) = false := by simp; omega
  have s0 : decide ((bs.length : Int) - (i : Int) < 4) = false := decide_eq_false (by omega)
  have c1 := H.out (i + 1) (by omega)
  have i1 : (i : Int) + 1 < (bs.length : Int) := by omega
  have hx1 : b1 < 256 := by rw [← hb1]; exact bt_lt bs _
  rw [hb1] at c1
  clear hb1
  have c2 := H.out (i + 2) (by omega)
  have i2 : (i : Int) + 2 < (bs.length : Int) := by omega
  have hx2 : b2 < 256 := by rw [← hb2]; exact bt_lt bs _
  rw [hb2] at c2
  clear hb2
  have c3 := H.out (i + 3) (by omega)
  have i3 : (i : Int) + 3 < (bs.length : Int) := by omega
  have hx3 : b3 < 256 := by rw [← hb3]; exact bt_lt bs _
  rw [hb3] at c3
  clear hb3
  have u1 : decide ((b1 : Int) < 144) = false := decide_eq_false (by omega)
  have u2 : decide ((191 : Int) < (b1 : Int)) = false := decide_eq_false (by omega)
  have K2 := Lib.hid (cont_no b2 w h2)
  go_enter Tryf.func36, Tryf.ntmps36
  go_big_wp2_with (first | (go_at_call 43; refine K2.out.mono ?_; clear K2; rintro e w1 ⟨rfl, rfl⟩))
  go_ret2
  exact ⟨rfl, rfl⟩
set_option maxHeartbeats 2000000 in
set_option maxRecDepth 20000 in
theorem d_E_b3 (b o cap : Nat) (bs : List UInt8) (i c0 : Nat) (w : World) (hi : i < bs.length) (hn : bs.length ≤ 2000000) (h : Row w b o cap bs) (hc0 : bt bs i = c0) (b1 b2 b3 : Nat) (hb1 : bt bs (i + 1) = b1) (hb2 : bt bs (i + 2) = b2) (hb3 : bt bs (i + 3) = b3) (hk : 240 ≤ c0 ∧ c0 ≤ 240) (hs : 4 ≤ bs.length - i) (h1 : 144 ≤ b1 ∧ b1 ≤ 191) (h2 : 128 ≤ b2 ∧ b2 ≤ 191) (h3 : b3 < 128 ∨ 191 < b3) :
    Calls Tryf.prog 36 #[.slice (some ⟨b, o, none⟩) bs.length cap, .int .i64 i] w fun e w' => e = .returned (.tuple #[.int .i32 65533, .int .i64 1]) ∧ w = w' := by
  have H := Lib.hid h
  have ci := h i hi
  have hi' : (i : Int) < (bs.length : Int) := by omega
  clear h
  have hc : c0 < 256 := by rw [← hc0]; exact bt_lt bs i
  rw [hc0] at ci
  clear hc0
  have t0 : decide ((c0 : Int) < 128) = false := decide_eq_false (by omega)
  have t1 : decide ((c0 : Int) < 194) = false := decide_eq_false (by omega)
  have t2 : decide ((244 : Int) < (c0 : Int)) = false := decide_eq_false (by omega)
  have t3 : decide ((c0 : Int) < 224) = false := decide_eq_false (by omega)
  have t4 : decide ((c0 : Int) < 240) = false := decide_eq_false (by omega)
  have t5 : ((c0 : Int) == 240) = true := by simp; omega
  have t6 : ((c0 : Int) == 244) = false := by simp; omega
  have s0 : decide ((bs.length : Int) - (i : Int) < 4) = false := decide_eq_false (by omega)
  have c1 := H.out (i + 1) (by omega)
  have i1 : (i : Int) + 1 < (bs.length : Int) := by omega
  have hx1 : b1 < 256 := by rw [← hb1]; exact bt_lt bs _
  rw [hb1] at c1
  clear hb1
  have c2 := H.out (i + 2) (by omega)
  have i2 : (i : Int) + 2 < (bs.length : Int) := by omega
  have hx2 : b2 < 256 := by rw [← hb2]; exact bt_lt bs _
  rw [hb2] at c2
  clear hb2
  have c3 := H.out (i + 3) (by omega)
  have i3 : (i : Int) + 3 < (bs.length : Int) := by omega
  have hx3 : b3 < 256 := by rw [← hb3]; exact bt_lt bs _
  rw [hb3] at c3
  clear hb3
  have u1 : decide ((b1 : Int) < 144) = false := decide_eq_false (by omega)
  have u2 : decide ((191 : Int) < (b1 : Int)) = false := decide_eq_false (by omega)
  have K2 := Lib.hid (cont_yes b2 w h2)
  have K3 := Lib.hid (cont_no b3 w h3)
  go_enter Tryf.func36, Tryf.ntmps36
  go_big_wp2_with (first | (go_at_call 43; refine K2.out.mono ?_; clear K2; rintro e w1 ⟨rfl, rfl⟩) | (go_at_call 43; refine K3.out.mono ?_; clear K3; rintro e w1 ⟨rfl, rfl⟩))
  go_ret2
  exact ⟨rfl, rfl⟩
set_option maxHeartbeats 2000000 in
set_option maxRecDepth 20000 in
theorem d_E_ok (b o cap : Nat) (bs : List UInt8) (i c0 : Nat) (w : World) (hi : i < bs.length) (hn : bs.length ≤ 2000000) (h : Row w b o cap bs) (hc0 : bt bs i = c0) (b1 b2 b3 : Nat) (hb1 : bt bs (i + 1) = b1) (hb2 : bt bs (i + 2) = b2) (hb3 : bt bs (i + 3) = b3) (hk : 240 ≤ c0 ∧ c0 ≤ 240) (hs : 4 ≤ bs.length - i) (h1 : 144 ≤ b1 ∧ b1 ≤ 191) (h2 : 128 ≤ b2 ∧ b2 ≤ 191) (h3 : 128 ≤ b3 ∧ b3 ≤ 191) :
    Calls Tryf.prog 36 #[.slice (some ⟨b, o, none⟩) bs.length cap, .int .i64 i] w fun e w' => e = .returned (.tuple #[.int .i32 ((c0 % 8 * 262144 + b1 % 64 * 4096 + b2 % 64 * 64 + b3 % 64 : Nat) : Int), .int .i64 4]) ∧ w = w' := by
  have H := Lib.hid h
  have ci := h i hi
  have hi' : (i : Int) < (bs.length : Int) := by omega
  clear h
  have hc : c0 < 256 := by rw [← hc0]; exact bt_lt bs i
  rw [hc0] at ci
  clear hc0
  have t0 : decide ((c0 : Int) < 128) = false := decide_eq_false (by omega)
  have t1 : decide ((c0 : Int) < 194) = false := decide_eq_false (by omega)
  have t2 : decide ((244 : Int) < (c0 : Int)) = false := decide_eq_false (by omega)
  have t3 : decide ((c0 : Int) < 224) = false := decide_eq_false (by omega)
  have t4 : decide ((c0 : Int) < 240) = false := decide_eq_false (by omega)
  have t5 : ((c0 : Int) == 240) = true := by simp; omega
  have t6 : ((c0 : Int) == 244) = false := by simp; omega
  have s0 : decide ((bs.length : Int) - (i : Int) < 4) = false := decide_eq_false (by omega)
  have c1 := H.out (i + 1) (by omega)
  have i1 : (i : Int) + 1 < (bs.length : Int) := by omega
  have hx1 : b1 < 256 := by rw [← hb1]; exact bt_lt bs _
  rw [hb1] at c1
  clear hb1
  have c2 := H.out (i + 2) (by omega)
  have i2 : (i : Int) + 2 < (bs.length : Int) := by omega
  have hx2 : b2 < 256 := by rw [← hb2]; exact bt_lt bs _
  rw [hb2] at c2
  clear hb2
  have c3 := H.out (i + 3) (by omega)
  have i3 : (i : Int) + 3 < (bs.length : Int) := by omega
  have hx3 : b3 < 256 := by rw [← hb3]; exact bt_lt bs _
  rw [hb3] at c3
  clear hb3
  have u1 : decide ((b1 : Int) < 144) = false := decide_eq_false (by omega)
  have u2 : decide ((191 : Int) < (b1 : Int)) = false := decide_eq_false (by omega)
  have K2 := Lib.hid (cont_yes b2 w h2)
  have K3 := Lib.hid (cont_yes b3 w h3)
  go_enter Tryf.func36, Tryf.ntmps36
  go_big_wp2_with (first | (go_at_call 43; refine K2.out.mono ?_; clear K2; rintro e w1 ⟨rfl, rfl⟩) | (go_at_call 43; refine K3.out.mono ?_; clear K3; rintro e w1 ⟨rfl, rfl⟩))
  go_ret2
  exact ⟨congrArg (fun x => Ending.returned (.tuple #[.int .i32 x, .int .i64 4])) (val4 c0 b1 b2 b3 hc hx1 hx2 hx3), rfl⟩
set_option maxHeartbeats 2000000 in
set_option maxRecDepth 20000 in
theorem d_F_short (b o cap : Nat) (bs : List UInt8) (i c0 : Nat) (w : World) (hi : i < bs.length) (hn : bs.length ≤ 2000000) (h : Row w b o cap bs) (hc0 : bt bs i = c0) (hk : 241 ≤ c0 ∧ c0 ≤ 243) (hs : bs.length - i < 4) :
    Calls Tryf.prog 36 #[.slice (some ⟨b, o, none⟩) bs.length cap, .int .i64 i] w fun e w' => e = .returned (.tuple #[.int .i32 65533, .int .i64 1]) ∧ w = w' := by
  have H := Lib.hid h
  have ci := h i hi
  have hi' : (i : Int) < (bs.length : Int) := by omega
  clear h
  have hc : c0 < 256 := by rw [← hc0]; exact bt_lt bs i
  rw [hc0] at ci
  clear hc0
  have t0 : decide ((c0 : Int) < 128) = false := decide_eq_false (by omega)
  have t1 : decide ((c0 : Int) < 194) = false := decide_eq_false (by omega)
  have t2 : decide ((244 : Int) < (c0 : Int)) = false := decide_eq_false (by omega)
  have t3 : decide ((c0 : Int) < 224) = false := decide_eq_false (by omega)
  have t4 : decide ((c0 : Int) < 240) = false := decide_eq_false (by omega)
  have t5 : ((c0 : Int) == 240) = false := by simp; omega
  have t6 : ((c0 : Int) == 244) = false := by simp; omega
  have s0 : decide ((bs.length : Int) - (i : Int) < 4) = true := decide_eq_true (by omega)
  go_enter Tryf.func36, Tryf.ntmps36
  go_big_wp2_with fail
  go_ret2
  exact ⟨rfl, rfl⟩
set_option maxHeartbeats 2000000 in
set_option maxRecDepth 20000 in
theorem d_F_lo (b o cap : Nat) (bs : List UInt8) (i c0 : Nat) (w : World) (hi : i < bs.length) (hn : bs.length ≤ 2000000) (h : Row w b o cap bs) (hc0 : bt bs i = c0) (b1 b2 b3 : Nat) (hb1 : bt bs (i + 1) = b1) (hb2 : bt bs (i + 2) = b2) (hb3 : bt bs (i + 3) = b3) (hk : 241 ≤ c0 ∧ c0 ≤ 243) (hs : 4 ≤ bs.length - i) (h1 : b1 < 128) :
    Calls Tryf.prog 36 #[.slice (some ⟨b, o, none⟩) bs.length cap, .int .i64 i] w fun e w' => e = .returned (.tuple #[.int .i32 65533, .int .i64 1]) ∧ w = w' := by
  have H := Lib.hid h
  have ci := h i hi
  have hi' : (i : Int) < (bs.length : Int) := by omega
  clear h
  have hc : c0 < 256 := by rw [← hc0]; exact bt_lt bs i
  rw [hc0] at ci
  clear hc0
  have t0 : decide ((c0 : Int) < 128) = false := decide_eq_false (by omega)
  have t1 : decide ((c0 : Int) < 194) = false := decide_eq_false (by omega)
  have t2 : decide ((244 : Int) < (c0 : Int)) = false := decide_eq_false (by omega)
  have t3 : decide ((c0 : Int) < 224) = false := decide_eq_false (by omega)
  have t4 : decide ((c0 : Int) < 240) = false := decide_eq_false (by omega)
  have t5 : ((c0 : Int) == 240) = false := by simp; omega
  have t6 : ((c0 : Int) == 244) = false := by simp; omega
  have s0 : decide ((bs.length : Int) - (i : Int) < 4) = false := decide_eq_false (by omega)
  have c1 := H.out (i + 1) (by omega)
  have i1 : (i : Int) + 1 < (bs.length : Int) := by omega
  have hx1 : b1 < 256 := by rw [← hb1]; exact bt_lt bs _
  rw [hb1] at c1
  clear hb1
  have c2 := H.out (i + 2) (by omega)
  have i2 : (i : Int) + 2 < (bs.length : Int) := by omega
  have hx2 : b2 < 256 := by rw [← hb2]; exact bt_lt bs _
  rw [hb2] at c2
  clear hb2
  have c3 := H.out (i + 3) (by omega)
  have i3 : (i : Int) + 3 < (bs.length : Int) := by omega
  have hx3 : b3 < 256 := by rw [← hb3]; exact bt_lt bs _
  rw [hb3] at c3
  clear hb3
  have u1 : decide ((b1 : Int) < 128) = true := decide_eq_true (by omega)
  go_enter Tryf.func36, Tryf.ntmps36
  go_big_wp2_with fail
  go_ret2
  exact ⟨rfl, rfl⟩
set_option maxHeartbeats 2000000 in
set_option maxRecDepth 20000 in
theorem d_F_hi (b o cap : Nat) (bs : List UInt8) (i c0 : Nat) (w : World) (hi : i < bs.length) (hn : bs.length ≤ 2000000) (h : Row w b o cap bs) (hc0 : bt bs i = c0) (b1 b2 b3 : Nat) (hb1 : bt bs (i + 1) = b1) (hb2 : bt bs (i + 2) = b2) (hb3 : bt bs (i + 3) = b3) (hk : 241 ≤ c0 ∧ c0 ≤ 243) (hs : 4 ≤ bs.length - i) (h1 : 191 < b1) :
    Calls Tryf.prog 36 #[.slice (some ⟨b, o, none⟩) bs.length cap, .int .i64 i] w fun e w' => e = .returned (.tuple #[.int .i32 65533, .int .i64 1]) ∧ w = w' := by
  have H := Lib.hid h
  have ci := h i hi
  have hi' : (i : Int) < (bs.length : Int) := by omega
  clear h
  have hc : c0 < 256 := by rw [← hc0]; exact bt_lt bs i
  rw [hc0] at ci
  clear hc0
  have t0 : decide ((c0 : Int) < 128) = false := decide_eq_false (by omega)
  have t1 : decide ((c0 : Int) < 194) = false := decide_eq_false (by omega)
  have t2 : decide ((244 : Int) < (c0 : Int)) = false := decide_eq_false (by omega)
  have t3 : decide ((c0 : Int) < 224) = false := decide_eq_false (by omega)
  have t4 : decide ((c0 : Int) < 240) = false := decide_eq_false (by omega)
  have t5 : ((c0 : Int) == 240) = false := by simp; omega
  have t6 : ((c0 : Int) == 244) = false := by simp; omega
  have s0 : decide ((bs.length : Int) - (i : Int) < 4) = false := decide_eq_false (by omega)
  have c1 := H.out (i + 1) (by omega)
  have i1 : (i : Int) + 1 < (bs.length : Int) := by omega
  have hx1 : b1 < 256 := by rw [← hb1]; exact bt_lt bs _
  rw [hb1] at c1
  clear hb1
  have c2 := H.out (i + 2) (by omega)
  have i2 : (i : Int) + 2 < (bs.length : Int) := by omega
  have hx2 : b2 < 256 := by rw [← hb2]; exact bt_lt bs _
  rw [hb2] at c2
  clear hb2
  have c3 := H.out (i + 3) (by omega)
  have i3 : (i : Int) + 3 < (bs.length : Int) := by omega
  have hx3 : b3 < 256 := by rw [← hb3]; exact bt_lt bs _
  rw [hb3] at c3
  clear hb3
  have u1 : decide ((b1 : Int) < 128) = false := decide_eq_false (by omega)
  have u2 : decide ((191 : Int) < (b1 : Int)) = true := decide_eq_true (by omega)
  go_enter Tryf.func36, Tryf.ntmps36
  go_big_wp2_with fail
  go_ret2
  exact ⟨rfl, rfl⟩
set_option maxHeartbeats 2000000 in
set_option maxRecDepth 20000 in
theorem d_F_b2 (b o cap : Nat) (bs : List UInt8) (i c0 : Nat) (w : World) (hi : i < bs.length) (hn : bs.length ≤ 2000000) (h : Row w b o cap bs) (hc0 : bt bs i = c0) (b1 b2 b3 : Nat) (hb1 : bt bs (i + 1) = b1) (hb2 : bt bs (i + 2) = b2) (hb3 : bt bs (i + 3) = b3) (hk : 241 ≤ c0 ∧ c0 ≤ 243) (hs : 4 ≤ bs.length - i) (h1 : 128 ≤ b1 ∧ b1 ≤ 191) (h2 : b2 < 128 ∨ 191 < b2) :
    Calls Tryf.prog 36 #[.slice (some ⟨b, o, none⟩) bs.length cap, .int .i64 i] w fun e w' => e = .returned (.tuple #[.int .i32 65533, .int .i64 1]) ∧ w = w' := by
  have H := Lib.hid h
  have ci := h i hi
  have hi' : (i : Int) < (bs.length : Int) := by omega
  clear h
  have hc : c0 < 256 := by rw [← hc0]; exact bt_lt bs i
  rw [hc0] at ci
  clear hc0
  have t0 : decide ((c0 : Int) < 128) = false := decide_eq_false (by omega)
  have t1 : decide ((c0 : Int) < 194) = false := decide_eq_false (by omega)
  have t2 : decide ((244 : Int) < (c0 : Int)) = false := decide_eq_false (by omega)
  have t3 : decide ((c0 : Int) < 224) = false := decide_eq_false (by omega)
  have t4 : decide ((c0 : Int) < 240) = false := decide_eq_false (by omega)
  have t5 : ((c0 : Int) == 240) = false := by simp; omega
  have t6 : ((c0 : Int) == 244) = false := by simp; omega
  have s0 : decide ((bs.length : Int) - (i : Int) < 4) = false := decide_eq_false (by omega)
  have c1 := H.out (i + 1) (by omega)
  have i1 : (i : Int) + 1 < (bs.length : Int) := by omega
  have hx1 : b1 < 256 := by rw [← hb1]; exact bt_lt bs _
  rw [hb1] at c1
  clear hb1
  have c2 := H.out (i + 2) (by omega)
  have i2 : (i : Int) + 2 < (bs.length : Int) := by omega
  have hx2 : b2 < 256 := by rw [← hb2]; exact bt_lt bs _
  rw [hb2] at c2
  clear hb2
  have c3 := H.out (i + 3) (by omega)
  have i3 : (i : Int) + 3 < (bs.length : Int) := by omega
  have hx3 : b3 < 256 := by rw [← hb3]; exact bt_lt bs _
  rw [hb3] at c3
  clear hb3
  have u1 : decide ((b1 : Int) < 128) = false := decide_eq_false (by omega)
  have u2 : decide ((191 : Int) < (b1 : Int)) = false := decide_eq_false (by omega)
  have K2 := Lib.hid (cont_no b2 w h2)
  go_enter Tryf.func36, Tryf.ntmps36
  go_big_wp2_with (first | (go_at_call 43; refine K2.out.mono ?_; clear K2; rintro e w1 ⟨rfl, rfl⟩))
  go_ret2
  exact ⟨rfl, rfl⟩
set_option maxHeartbeats 2000000 in
set_option maxRecDepth 20000 in
theorem d_F_b3 (b o cap : Nat) (bs : List UInt8) (i c0 : Nat) (w : World) (hi : i < bs.length) (hn : bs.length ≤ 2000000) (h : Row w b o cap bs) (hc0 : bt bs i = c0) (b1 b2 b3 : Nat) (hb1 : bt bs (i + 1) = b1) (hb2 : bt bs (i + 2) = b2) (hb3 : bt bs (i + 3) = b3) (hk : 241 ≤ c0 ∧ c0 ≤ 243) (hs : 4 ≤ bs.length - i) (h1 : 128 ≤ b1 ∧ b1 ≤ 191) (h2 : 128 ≤ b2 ∧ b2 ≤ 191) (h3 : b3 < 128 ∨ 191 < b3) :
    Calls Tryf.prog 36 #[.slice (some ⟨b, o, none⟩) bs.length cap, .int .i64 i] w fun e w' => e = .returned (.tuple #[.int .i32 65533, .int .i64 1]) ∧ w = w' := by
  have H := Lib.hid h
  have ci := h i hi
  have hi' : (i : Int) < (bs.length : Int) := by omega
  clear h
  have hc : c0 < 256 := by rw [← hc0]; exact bt_lt bs i
  rw [hc0] at ci
  clear hc0
  have t0 : decide ((c0 : Int) < 128) = false := decide_eq_false (by omega)
  have t1 : decide ((c0 : Int) < 194) = false := decide_eq_false (by omega)
  have t2 : decide ((244 : Int) < (c0 : Int)) = false := decide_eq_false (by omega)
  have t3 : decide ((c0 : Int) < 224) = false := decide_eq_false (by omega)
  have t4 : decide ((c0 : Int) < 240) = false := decide_eq_false (by omega)
  have t5 : ((c0 : Int) == 240) = false := by simp; omega
  have t6 : ((c0 : Int) == 244) = false := by simp; omega
  have s0 : decide ((bs.length : Int) - (i : Int) < 4) = false := decide_eq_false (by omega)
  have c1 := H.out (i + 1) (by omega)
  have i1 : (i : Int) + 1 < (bs.length : Int) := by omega
  have hx1 : b1 < 256 := by rw [← hb1]; exact bt_lt bs _
  rw [hb1] at c1
  clear hb1
  have c2 := H.out (i + 2) (by omega)
  have i2 : (i : Int) + 2 < (bs.length : Int) := by omega
  have hx2 : b2 < 256 := by rw [← hb2]; exact bt_lt bs _
  rw [hb2] at c2
  clear hb2
  have c3 := H.out (i + 3) (by omega)
  have i3 : (i : Int) + 3 < (bs.length : Int) := by omega
  have hx3 : b3 < 256 := by rw [← hb3]; exact bt_lt bs _
  rw [hb3] at c3
  clear hb3
  have u1 : decide ((b1 : Int) < 128) = false := decide_eq_false (by omega)
  have u2 : decide ((191 : Int) < (b1 : Int)) = false := decide_eq_false (by omega)
  have K2 := Lib.hid (cont_yes b2 w h2)
  have K3 := Lib.hid (cont_no b3 w h3)
  go_enter Tryf.func36, Tryf.ntmps36
  go_big_wp2_with (first | (go_at_call 43; refine K2.out.mono ?_; clear K2; rintro e w1 ⟨rfl, rfl⟩) | (go_at_call 43; refine K3.out.mono ?_; clear K3; rintro e w1 ⟨rfl, rfl⟩))
  go_ret2
  exact ⟨rfl, rfl⟩
set_option maxHeartbeats 2000000 in
set_option maxRecDepth 20000 in
theorem d_F_ok (b o cap : Nat) (bs : List UInt8) (i c0 : Nat) (w : World) (hi : i < bs.length) (hn : bs.length ≤ 2000000) (h : Row w b o cap bs) (hc0 : bt bs i = c0) (b1 b2 b3 : Nat) (hb1 : bt bs (i + 1) = b1) (hb2 : bt bs (i + 2) = b2) (hb3 : bt bs (i + 3) = b3) (hk : 241 ≤ c0 ∧ c0 ≤ 243) (hs : 4 ≤ bs.length - i) (h1 : 128 ≤ b1 ∧ b1 ≤ 191) (h2 : 128 ≤ b2 ∧ b2 ≤ 191) (h3 : 128 ≤ b3 ∧ b3 ≤ 191) :
    Calls Tryf.prog 36 #[.slice (some ⟨b, o, none⟩) bs.length cap, .int .i64 i] w fun e w' => e = .returned (.tuple #[.int .i32 ((c0 % 8 * 262144 + b1 % 64 * 4096 + b2 % 64 * 64 + b3 % 64 : Nat) : Int), .int .i64 4]) ∧ w = w' := by
  have H := Lib.hid h
  have ci := h i hi
  have hi' : (i : Int) < (bs.length : Int) := by omega
  clear h
  have hc : c0 < 256 := by rw [← hc0]; exact bt_lt bs i
  rw [hc0] at ci
  clear hc0
  have t0 : decide ((c0 : Int) < 128) = false := decide_eq_false (by omega)
  have t1 : decide ((c0 : Int) < 194) = false := decide_eq_false (by omega)
  have t2 : decide ((244 : Int) < (c0 : Int)) = false := decide_eq_false (by omega)
  have t3 : decide ((c0 : Int) < 224) = false := decide_eq_false (by omega)
  have t4 : decide ((c0 : Int) < 240) = false := decide_eq_false (by omega)
  have t5 : ((c0 : Int) == 240) = false := by simp; omega
  have t6 : ((c0 : Int) == 244) = false := by simp; omega
  have s0 : decide ((bs.length : Int) - (i : Int) < 4) = false := decide_eq_false (by omega)
  have c1 := H.out (i + 1) (by omega)
  have i1 : (i : Int) + 1 < (bs.length : Int) := by omega
  have hx1 : b1 < 256 := by rw [← hb1]; exact bt_lt bs _
  rw [hb1] at c1
  clear hb1
  have c2 := H.out (i + 2) (by omega)
  have i2 : (i : Int) + 2 < (bs.length : Int) := by omega
  have hx2 : b2 < 256 := by rw [← hb2]; exact bt_lt bs _
  rw [hb2] at c2
  clear hb2
  have c3 := H.out (i + 3) (by omega)
  have i3 : (i : Int) + 3 < (bs.length : Int) := by omega
  have hx3 : b3 < 256 := by rw [← hb3]; exact bt_lt bs _
  rw [hb3] at c3
  clear hb3
  have u1 : decide ((b1 : Int) < 128) = false := decide_eq_false (by omega)
  have u2 : decide ((191 : Int) < (b1 : Int)) = false := decide_eq_false (by omega)
  have K2 := Lib.hid (cont_yes b2 w h2)
  have K3 := Lib.hid (cont_yes b3 w h3)
  go_enter Tryf.func36, Tryf.ntmps36
  go_big_wp2_with (first | (go_at_call 43; refine K2.out.mono ?_; clear K2; rintro e w1 ⟨rfl, rfl⟩) | (go_at_call 43; refine K3.out.mono ?_; clear K3; rintro e w1 ⟨rfl, rfl⟩))
  go_ret2
  exact ⟨congrArg (fun x => Ending.returned (.tuple #[.int .i32 x, .int .i64 4])) (val4 c0 b1 b2 b3 hc hx1 hx2 hx3), rfl⟩
set_option maxHeartbeats 2000000 in
set_option maxRecDepth 20000 in
theorem d_G_short (b o cap : Nat) (bs : List UInt8) (i c0 : Nat) (w : World) (hi : i < bs.length) (hn : bs.length ≤ 2000000) (h : Row w b o cap bs) (hc0 : bt bs i = c0) (hk : 244 ≤ c0 ∧ c0 ≤ 244) (hs : bs.length - i < 4) :
    Calls Tryf.prog 36 #[.slice (some ⟨b, o, none⟩) bs.length cap, .int .i64 i] w fun e w' => e = .returned (.tuple #[.int .i32 65533, .int .i64 1]) ∧ w = w' := by
  have H := Lib.hid h
  have ci := h i hi
  have hi' : (i : Int) < (bs.length : Int) := by omega
  clear h
  have hc : c0 < 256 := by rw [← hc0]; exact bt_lt bs i
  rw [hc0] at ci
  clear hc0
  have t0 : decide ((c0 : Int) < 128) = false := decide_eq_false (by omega)
  have t1 : decide ((c0 : Int) < 194) = false := decide_eq_false (by omega)
  have t2 : decide ((244 : Int) < (c0 : Int)) = false := decide_eq_false (by omega)
  have t3 : decide ((c0 : Int) < 224) = false := decide_eq_false (by omega)
  have t4 : decide ((c0 : Int) < 240) = false := decide_eq_false (by omega)
  have t5 : ((c0 : Int) == 240) = false := by simp; omega
  have t6 : ((c0 : Int) == 244) = true := by simp; omega
  have s0 : decide ((bs.length : Int) - (i : Int) < 4) = true := decide_eq_true (by omega)
  go_enter Tryf.func36, Tryf.ntmps36
  go_big_wp2_with fail
  go_ret2
  exact ⟨rfl, rfl⟩
set_option maxHeartbeats 2000000 in
set_option maxRecDepth 20000 in
theorem d_G_lo (b o cap : Nat) (bs : List UInt8) (i c0 : Nat) (w : World) (hi : i < bs.length) (hn : bs.length ≤ 2000000) (h : Row w b o cap bs) (hc0 : bt bs i = c0) (b1 b2 b3 : Nat) (hb1 : bt bs (i + 1) = b1) (hb2 : bt bs (i + 2) = b2) (hb3 : bt bs (i + 3) = b3) (hk : 244 ≤ c0 ∧ c0 ≤ 244) (hs : 4 ≤ bs.length - i) (h1 : b1 < 128) :
    Calls Tryf.prog 36 #[.slice (some ⟨b, o, none⟩) bs.length cap, .int .i64 i] w fun e w' => e = .returned (.tuple #[.int .i32 65533, .int .i64 1]) ∧ w = w' := by
  have H := Lib.hid h
  have ci := h i hi
  have hi' : (i : Int) < (bs.length : Int) := by omega
  clear h
  have hc : c0 < 256 := by rw [← hc0]; exact bt_lt bs i
  rw [hc0] at ci
  clear hc0
  have t0 : decide ((c0 : Int) < 128) = false := decide_eq_false (by omega)
  have t1 : decide ((c0 : Int) < 194) = false := decide_eq_false (by omega)
  have t2 : decide ((244 : Int) < (c0 : Int)) = false := decide_eq_false (by omega)
  have t3 : decide ((c0 : Int) < 224) = false := decide_eq_false (by omega)
  have t4 : decide ((c0 : Int) < 240) = false := decide_eq_false (by omega)
  have t5 : ((c0 : Int) == 240) = false := by simp; omega
  have t6 : ((c0 : Int) == 244) = true := by simp; omega
  have s0 : decide ((bs.length : Int) - (i : Int) < 4) = false := decide_eq_false (by omega)
  have c1 := H.out (i + 1) (by omega)
  have i1 : (i : Int) + 1 < (bs.length : Int) := by omega
  have hx1 : b1 < 256 := by rw [← hb1]; exact bt_lt bs _
  rw [hb1] at c1
  clear hb1
  have c2 := H.out (i + 2) (by omega)
  have i2 : (i : Int) + 2 < (bs.length : Int) := by omega
  have hx2 : b2 < 256 := by rw [← hb2]; exact bt_lt bs _
  rw [hb2] at c2
  clear hb2
  have c3 := H.out (i + 3) (by omega)
  have i3 : (i : Int) + 3 < (bs.length : Int) := by omega
  have hx3 : b3 < 256 := by rw [← hb3]; exact bt_lt bs _
  rw [hb3] at c3
  clear hb3
  have u1 : decide ((b1 : Int) < 128) = true := decide_eq_true (by omega)
  go_enter Tryf.func36, Tryf.ntmps36
  go_big_wp2_with fail
  go_ret2
  exact ⟨rfl, rfl⟩
set_option maxHeartbeats 2000000 in
set_option maxRecDepth 20000 in
theorem d_G_hi (b o cap : Nat) (bs : List UInt8) (i c0 : Nat) (w : World) (hi : i < bs.length) (hn : bs.length ≤ 2000000) (h : Row w b o cap bs) (hc0 : bt bs i = c0) (b1 b2 b3 : Nat) (hb1 : bt bs (i + 1) = b1) (hb2 : bt bs (i + 2) = b2) (hb3 : bt bs (i + 3) = b3) (hk : 244 ≤ c0 ∧ c0 ≤ 244) (hs : 4 ≤ bs.length - i) (h1 : 143 < b1) :
    Calls Tryf.prog 36 #[.slice (some ⟨b, o, none⟩) bs.length cap, .int .i64 i] w fun e w' => e = .returned (.tuple #[.int .i32 65533, .int .i64 1]) ∧ w = w' := by
  have H := Lib.hid h
  have ci := h i hi
  have hi' : (i : Int) < (bs.length : Int) := by omega
  clear h
  have hc : c0 < 256 := by rw [← hc0]; exact bt_lt bs i
  rw [hc0] at ci
  clear hc0
  have t0 : decide ((c0 : Int) < 128) = false := decide_eq_false (by omega)
  have t1 : decide ((c0 : Int) < 194) = false := decide_eq_false (by omega)
  have t2 : decide ((244 : Int) < (c0 : Int)) = false := decide_eq_false (by omega)
  have t3 : decide ((c0 : Int) < 224) = false := decide_eq_false (by omega)
  have t4 : decide ((c0 : Int) < 240) = false := decide_eq_false (by omega)
  have t5 : ((c0 : Int) == 240) = false := by simp; omega
  have t6 : ((c0 : Int) == 244) = true := by simp; omega
  have s0 : decide ((bs.length : Int) - (i : Int) < 4) = false := decide_eq_false (by omega)
  have c1 := H.out (i + 1) (by omega)
  have i1 : (i : Int) + 1 < (bs.length : Int) := by omega
  have hx1 : b1 < 256 := by rw [← hb1]; exact bt_lt bs _
  rw [hb1] at c1
  clear hb1
  have c2 := H.out (i + 2) (by omega)
  have i2 : (i : Int) + 2 < (bs.length : Int) := by omega
  have hx2 : b2 < 256 := by rw [← hb2]; exact bt_lt bs _
  rw [hb2] at c2
  clear hb2
  have c3 := H.out (i + 3) (by omega)
  have i3 : (i : Int) + 3 < (bs.length : Int) := by omega
  have hx3 : b3 < 256 := by rw [← hb3]; exact bt_lt bs _
  rw [hb3] at c3
  clear hb3
  have u1 : decide ((b1 : Int) < 128) = false := decide_eq_false (by omega)
  have u2 : decide ((143 : Int) < (b1 : Int)) = true := decide_eq_true (by omega)
  go_enter Tryf.func36, Tryf.ntmps36
  go_big_wp2_with fail
  go_ret2
  exact ⟨rfl, rfl⟩
set_option maxHeartbeats 2000000 in
set_option maxRecDepth 20000 in
theorem d_G_b2 (b o cap : Nat) (bs : List UInt8) (i c0 : Nat) (w : World) (hi : i < bs.length) (hn : bs.length ≤ 2000000) (h : Row w b o cap bs) (hc0 : bt bs i = c0) (b1 b2 b3 : Nat) (hb1 : bt bs (i + 1) = b1) (hb2 : bt bs (i + 2) = b2) (hb3 : bt bs (i + 3) = b3) (hk : 244 ≤ c0 ∧ c0 ≤ 244) (hs : 4 ≤ bs.length - i) (h1 : 128 ≤ b1 ∧ b1 ≤ 143) (h2 : b2 < 128 ∨ 191 < b2) :
    Calls Tryf.prog 36 #[.slice (some ⟨b, o, none⟩) bs.length cap, .int .i64 i] w fun e w' => e = .returned (.tuple #[.int .i32 65533, .int .i64 1]) ∧ w = w' := by
  have H := Lib.hid h
  have ci := h i hi
  have hi' : (i : Int) < (bs.length : Int) := by omega
  clear h
  have hc : c0 < 256 := by rw [← hc0]; exact bt_lt bs i
  rw [hc0] at ci
  clear hc0
  have t0 : decide ((c0 : Int) < 128) = false := decide_eq_false (by omega)
  have t1 : decide ((c0 : Int) < 194) = false := decide_eq_false (by omega)
  have t2 : decide ((244 : Int) < (c0 : Int)) = false := decide_eq_false (by omega)
  have t3 : decide ((c0 : Int) < 224) = false := decide_eq_false (by omega)
  have t4 : decide ((c0 : Int) < 240) = false := decide_eq_false (by omega)
  have t5 : ((c0 : Int) == 240) = false := by simp; omega
  have t6 : ((c0 : Int) == 244) = true := by simp; omega
  have s0 : decide ((bs.length : Int) - (i : Int) < 4) = false := decide_eq_false (by omega)
  have c1 := H.out (i + 1) (by omega)
  have i1 : (i : Int) + 1 < (bs.length : Int) := by omega
  have hx1 : b1 < 256 := by rw [← hb1]; exact bt_lt bs _
  rw [hb1] at c1
  clear hb1
  have c2 := H.out (i + 2) (by omega)
  have i2 : (i : Int) + 2 < (bs.length : Int) := by omega
  have hx2 : b2 < 256 := by rw [← hb2]; exact bt_lt bs _
  rw [hb2] at c2
  clear hb2
  have c3 := H.out (i + 3) (by omega)
  have i3 : (i : Int) + 3 < (bs.length : Int) := by omega
  have hx3 : b3 < 256 := by rw [← hb3]; exact bt_lt bs _
  rw [hb3] at c3
  clear hb3
  have u1 : decide ((b1 : Int) < 128) = false := decide_eq_false (by omega)
  have u2 : decide ((143 : Int) < (b1 : Int)) = false := decide_eq_false (by omega)
  have K2 := Lib.hid (cont_no b2 w h2)
  go_enter Tryf.func36, Tryf.ntmps36
  go_big_wp2_with (first | (go_at_call 43; refine K2.out.mono ?_; clear K2; rintro e w1 ⟨rfl, rfl⟩))
  go_ret2
  exact ⟨rfl, rfl⟩
set_option maxHeartbeats 2000000 in
set_option maxRecDepth 20000 in
theorem d_G_b3 (b o cap : Nat) (bs : List UInt8) (i c0 : Nat) (w : World) (hi : i < bs.length) (hn : bs.length ≤ 2000000) (h : Row w b o cap bs) (hc0 : bt bs i = c0) (b1 b2 b3 : Nat) (hb1 : bt bs (i + 1) = b1) (hb2 : bt bs (i + 2) = b2) (hb3 : bt bs (i + 3) = b3) (hk : 244 ≤ c0 ∧ c0 ≤ 244) (hs : 4 ≤ bs.length - i) (h1 : 128 ≤ b1 ∧ b1 ≤ 143) (h2 : 128 ≤ b2 ∧ b2 ≤ 191) (h3 : b3 < 128 ∨ 191 < b3) :
    Calls Tryf.prog 36 #[.slice (some ⟨b, o, none⟩) bs.length cap, .int .i64 i] w fun e w' => e = .returned (.tuple #[.int .i32 65533, .int .i64 1]) ∧ w = w' := by
  have H := Lib.hid h
  have ci := h i hi
  have hi' : (i : Int) < (bs.length : Int) := by omega
  clear h
  have hc : c0 < 256 := by rw [← hc0]; exact bt_lt bs i
  rw [hc0] at ci
  clear hc0
  have t0 : decide ((c0 : Int) < 128) = false := decide_eq_false (by omega)
  have t1 : decide ((c0 : Int) < 194) = false := decide_eq_false (by omega)
  have t2 : decide ((244 : Int) < (c0 : Int)) = false := decide_eq_false (by omega)
  have t3 : decide ((c0 : Int) < 224) = false := decide_eq_false (by omega)
  have t4 : decide ((c0 : Int) < 240) = false := decide_eq_false (by omega)
  have t5 : ((c0 : Int) == 240) = false := by simp; omega
  have t6 : ((c0 : Int) == 244) = true := by simp; omega
  have s0 : decide ((bs.length : Int) - (i : Int) < 4) = false := decide_eq_false (by omega)
  have c1 := H.out (i + 1) (by omega)
  have i1 : (i : Int) + 1 < (bs.length : Int) := by omega
  have hx1 : b1 < 256 := by rw [← hb1]; exact bt_lt bs _
  rw [hb1] at c1
  clear hb1
  have c2 := H.out (i + 2) (by omega)
  have i2 : (i : Int) + 2 < (bs.length : Int) := by omega
  have hx2 : b2 < 256 := by rw [← hb2]; exact bt_lt bs _
  rw [hb2] at c2
  clear hb2
  have c3 := H.out (i + 3) (by omega)
  have i3 : (i : Int) + 3 < (bs.length : Int) := by omega
  have hx3 : b3 < 256 := by rw [← hb3]; exact bt_lt bs _
  rw [hb3] at c3
  clear hb3
  have u1 : decide ((b1 : Int) < 128) = false := decide_eq_false (by omega)
  have u2 : decide ((143 : Int) < (b1 : Int)) = false := decide_eq_false (by omega)
  have K2 := Lib.hid (cont_yes b2 w h2)
  have K3 := Lib.hid (cont_no b3 w h3)
  go_enter Tryf.func36, Tryf.ntmps36
  go_big_wp2_with (first | (go_at_call 43; refine K2.out.mono ?_; clear K2; rintro e w1 ⟨rfl, rfl⟩) | (go_at_call 43; refine K3.out.mono ?_; clear K3; rintro e w1 ⟨rfl, rfl⟩))
  go_ret2
  exact ⟨rfl, rfl⟩
set_option maxHeartbeats 2000000 in
set_option maxRecDepth 20000 in
theorem d_G_ok (b o cap : Nat) (bs : List UInt8) (i c0 : Nat) (w : World) (hi : i < bs.length) (hn : bs.length ≤ 2000000) (h : Row w b o cap bs) (hc0 : bt bs i = c0) (b1 b2 b3 : Nat) (hb1 : bt bs (i + 1) = b1) (hb2 : bt bs (i + 2) = b2) (hb3 : bt bs (i + 3) = b3) (hk : 244 ≤ c0 ∧ c0 ≤ 244) (hs : 4 ≤ bs.length - i) (h1 : 128 ≤ b1 ∧ b1 ≤ 143) (h2 : 128 ≤ b2 ∧ b2 ≤ 191) (h3 : 128 ≤ b3 ∧ b3 ≤ 191) :
    Calls Tryf.prog 36 #[.slice (some ⟨b, o, none⟩) bs.length cap, .int .i64 i] w fun e w' => e = .returned (.tuple #[.int .i32 ((c0 % 8 * 262144 + b1 % 64 * 4096 + b2 % 64 * 64 + b3 % 64 : Nat) : Int), .int .i64 4]) ∧ w = w' := by
  have H := Lib.hid h
  have ci := h i hi
  have hi' : (i : Int) < (bs.length : Int) := by omega
  clear h
  have hc : c0 < 256 := by rw [← hc0]; exact bt_lt bs i
  rw [hc0] at ci
  clear hc0
  have t0 : decide ((c0 : Int) < 128) = false := decide_eq_false (by omega)
  have t1 : decide ((c0 : Int) < 194) = false := decide_eq_false (by omega)
  have t2 : decide ((244 : Int) < (c0 : Int)) = false := decide_eq_false (by omega)
  have t3 : decide ((c0 : Int) < 224) = false := decide_eq_false (by omega)
  have t4 : decide ((c0 : Int) < 240) = false := decide_eq_false (by omega)
  have t5 : ((c0 : Int) == 240) = false := by simp; omega
  have t6 : ((c0 : Int) == 244) = true := by simp; omega
  have s0 : decide ((bs.length : Int) - (i : Int) < 4) = false := decide_eq_false (by omega)
  have c1 := H.out (i + 1) (by omega)
  have i1 : (i : Int) + 1 < (bs.length : Int) := by omega
  have hx1 : b1 < 256 := by rw [← hb1]; exact bt_lt bs _
  rw [hb1] at c1
  clear hb1
  have c2 := H.out (i + 2) (by omega)
  have i2 : (i : Int) + 2 < (bs.length : Int) := by omega
  have hx2 : b2 < 256 := by rw [← hb2]; exact bt_lt bs _
  rw [hb2] at c2
  clear hb2
  have c3 := H.out (i + 3) (by omega)
  have i3 : (i : Int) + 3 < (bs.length : Int) := by omega
  have hx3 : b3 < 256 := by rw [← hb3]; exact bt_lt bs _
  rw [hb3] at c3
  clear hb3
  have u1 : decide ((b1 : Int) < 128) = false := decide_eq_false (by omega)
  have u2 : decide ((143 : Int) < (b1 : Int)) = false := decide_eq_false (by omega)
  have K2 := Lib.hid (cont_yes b2 w h2)
  have K3 := Lib.hid (cont_yes b3 w h3)
  go_enter Tryf.func36, Tryf.ntmps36
  go_big_wp2_with (first | (go_at_call 43; refine K2.out.mono ?_; clear K2; rintro e w1 ⟨rfl, rfl⟩) | (go_at_call 43; refine K3.out.mono ?_; clear K3; rintro e w1 ⟨rfl, rfl⟩))
  go_ret2
  exact ⟨congrArg (fun x => Ending.returned (.tuple #[.int .i32 x, .int .i64 4])) (val4 c0 b1 b2 b3 hc hx1 hx2 hx3), rfl⟩
theorem decN_S (n b0 b1 b2 b3 : Nat) (h : b0 < 128) : Lib.decodeN n b0 b1 b2 b3 = (b0, 1) := by unfold Lib.decodeN; rw [if_pos h]
theorem decN_none (n b0 b1 b2 b3 : Nat) (h0 : b0 < 256) (h1 : b1 < 256) (h2 : b2 < 256) (h3 : b3 < 256) (hb : (128 ≤ b0 ∧ b0 < 194) ∨ 244 < b0) : Lib.decodeN n b0 b1 b2 b3 = (65533, 1) := by
  unfold Lib.decodeN
  rw [if_neg (by omega)]
  repeat' split
  all_goals first | (exfalso; omega) | rfl
theorem decN_A_bad (n b0 b1 b2 b3 : Nat) (h0 : b0 < 256) (h1 : b1 < 256) (h2 : b2 < 256) (h3 : b3 < 256) (hk : 194 ≤ b0 ∧ b0 ≤ 223) (hb : n < 2 ∨ b1 < 128 ∨ 191 < b1) : Lib.decodeN n b0 b1 b2 b3 = (65533, 1) := by
  unfold Lib.decodeN
  rw [if_neg (by omega)]
  repeat' split
  all_goals first | (exfalso; omega) | rfl
theorem decN_A_ok (n b0 b1 b2 b3 : Nat) (h0 : b0 < 256) (h1 : b1 < 256) (h2 : b2 < 256) (h3 : b3 < 256) (hk : 194 ≤ b0 ∧ b0 ≤ 223) (hb : 2 ≤ n ∧ 128 ≤ b1 ∧ b1 ≤ 191) : Lib.decodeN n b0 b1 b2 b3 = (b0 % 32 * 64 + b1 % 64, 2) := by
  unfold Lib.decodeN
  rw [if_neg (by omega)]
  repeat' split
  all_goals first | (exfalso; omega) | rfl
theorem decN_B_bad (n b0 b1 b2 b3 : Nat) (h0 : b0 < 256) (h1 : b1 < 256) (h2 : b2 < 256) (h3 : b3 < 256) (hk : 224 ≤ b0 ∧ b0 ≤ 224) (hb : n < 3 ∨ b1 < 160 ∨ 191 < b1 ∨ b2 < 128 ∨ 191 < b2) : Lib.decodeN n b0 b1 b2 b3 = (65533, 1) := by
  unfold Lib.decodeN
  rw [if_neg (by omega)]
  repeat' split
  all_goals first | (exfalso; omega) | rfl
theorem decN_B_ok (n b0 b1 b2 b3 : Nat) (h0 : b0 < 256) (h1 : b1 < 256) (h2 : b2 < 256) (h3 : b3 < 256) (hk : 224 ≤ b0 ∧ b0 ≤ 224) (hb : 3 ≤ n ∧ 160 ≤ b1 ∧ b1 ≤ 191 ∧ 128 ≤ b2 ∧ b2 ≤ 191) : Lib.decodeN n b0 b1 b2 b3 = (b0 % 16 * 4096 + b1 % 64 * 64 + b2 % 64, 3) := by
  unfold Lib.decodeN
  rw [if_neg (by omega)]
  repeat' split
  all_goals first | (exfalso; omega) | rfl
theorem decN_C_bad (n b0 b1 b2 b3 : Nat) (h0 : b0 < 256) (h1 : b1 < 256) (h2 : b2 < 256) (h3 : b3 < 256) (hk : 237 ≤ b0 ∧ b0 ≤ 237) (hb : n < 3 ∨ b1 < 128 ∨ 159 < b1 ∨ b2 < 128 ∨ 191 < b2) : Lib.decodeN n b0 b1 b2 b3 = (65533, 1) := by
  unfold Lib.decodeN
  rw [if_neg (by omega)]
  repeat' split
  all_goals first | (exfalso; omega) | rfl
theorem decN_C_ok (n b0 b1 b2 b3 : Nat) (h0 : b0 < 256) (h1 : b1 < 256) (h2 : b2 < 256) (h3 : b3 < 256) (hk : 237 ≤ b0 ∧ b0 ≤ 237) (hb : 3 ≤ n ∧ 128 ≤ b1 ∧ b1 ≤ 159 ∧ 128 ≤ b2 ∧ b2 ≤ 191) : Lib.decodeN n b0 b1 b2 b3 = (b0 % 16 * 4096 + b1 % 64 * 64 + b2 % 64, 3) := by
  unfold Lib.decodeN
  rw [if_neg (by omega)]
  repeat' split
  all_goals first | (exfalso; omega) | rfl
theorem decN_Da_bad (n b0 b1 b2 b3 : Nat) (h0 : b0 < 256) (h1 : b1 < 256) (h2 : b2 < 256) (h3 : b3 < 256) (hk : 225 ≤ b0 ∧ b0 ≤ 236) (hb : n < 3 ∨ b1 < 128 ∨ 191 < b1 ∨ b2 < 128 ∨ 191 < b2) : Lib.decodeN n b0 b1 b2 b3 = (65533, 1) := by
  unfold Lib.decodeN
  rw [if_neg (by omega)]
  repeat' split
  all_goals first | (exfalso; omega) | rfl
theorem decN_Da_ok (n b0 b1 b2 b3 : Nat) (h0 : b0 < 256) (h1 : b1 < 256) (h2 : b2 < 256) (h3 : b3 < 256) (hk : 225 ≤ b0 ∧ b0 ≤ 236) (hb : 3 ≤ n ∧ 128 ≤ b1 ∧ b1 ≤ 191 ∧ 128 ≤ b2 ∧ b2 ≤ 191) : Lib.decodeN n b0 b1 b2 b3 = (b0 % 16 * 4096 + b1 % 64 * 64 + b2 % 64, 3) := by
  unfold Lib.decodeN
  rw [if_neg (by omega)]
  repeat' split
  all_goals first | (exfalso; omega) | rfl
theorem decN_Db_bad (n b0 b1 b2 b3 : Nat) (h0 : b0 < 256) (h1 : b1 < 256) (h2 : b2 < 256) (h3 : b3 < 256) (hk : 238 ≤ b0 ∧ b0 ≤ 239) (hb : n < 3 ∨ b1 < 128 ∨ 191 < b1 ∨ b2 < 128 ∨ 191 < b2) : Lib.decodeN n b0 b1 b2 b3 = (65533, 1) := by
  unfold Lib.decodeN
  rw [if_neg (by omega)]
  repeat' split
  all_goals first | (exfalso; omega) | rfl
theorem decN_Db_ok (n b0 b1 b2 b3 : Nat) (h0 : b0 < 256) (h1 : b1 < 256) (h2 : b2 < 256) (h3 : b3 < 256) (hk : 238 ≤ b0 ∧ b0 ≤ 239) (hb : 3 ≤ n ∧ 128 ≤ b1 ∧ b1 ≤ 191 ∧ 128 ≤ b2 ∧ b2 ≤ 191) : Lib.decodeN n b0 b1 b2 b3 = (b0 % 16 * 4096 + b1 % 64 * 64 + b2 % 64, 3) := by
  unfold Lib.decodeN
  rw [if_neg (by omega)]
  repeat' split
  all_goals first | (exfalso; omega) | rfl
theorem decN_E_bad (n b0 b1 b2 b3 : Nat) (h0 : b0 < 256) (h1 : b1 < 256) (h2 : b2 < 256) (h3 : b3 < 256) (hk : 240 ≤ b0 ∧ b0 ≤ 240) (hb : n < 4 ∨ b1 < 144 ∨ 191 < b1 ∨ b2 < 128 ∨ 191 < b2 ∨ b3 < 128 ∨ 191 < b3) : Lib.decodeN n b0 b1 b2 b3 = (65533, 1) := by
  unfold Lib.decodeN
  rw [if_neg (by omega)]
  repeat' split
  all_goals first | (exfalso; omega) | rfl
theorem decN_E_ok (n b0 b1 b2 b3 : Nat) (h0 : b0 < 256) (h1 : b1 < 256) (h2 : b2 < 256) (h3 : b3 < 256) (hk : 240 ≤ b0 ∧ b0 ≤ 240) (hb : 4 ≤ n ∧ 144 ≤ b1 ∧ b1 ≤ 191 ∧ 128 ≤ b2 ∧ b2 ≤ 191 ∧ 128 ≤ b3 ∧ b3 ≤ 191) : Lib.decodeN n b0 b1 b2 b3 = (b0 % 8 * 262144 + b1 % 64 * 4096 + b2 % 64 * 64 + b3 % 64, 4) := by
  unfold Lib.decodeN
  rw [if_neg (by omega)]
  repeat' split
  all_goals first | (exfalso; omega) | rfl
theorem decN_F_bad (n b0 b1 b2 b3 : Nat) (h0 : b0 < 256) (h1 : b1 < 256) (h2 : b2 < 256) (h3 : b3 < 256) (hk : 241 ≤ b0 ∧ b0 ≤ 243) (hb : n < 4 ∨ b1 < 128 ∨ 191 < b1 ∨ b2 < 128 ∨ 191 < b2 ∨ b3 < 128 ∨ 191 < b3) : Lib.decodeN n b0 b1 b2 b3 = (65533, 1) := by
  unfold Lib.decodeN
  rw [if_neg (by omega)]
  repeat' split
  all_goals first | (exfalso; omega) | rfl
theorem decN_F_ok (n b0 b1 b2 b3 : Nat) (h0 : b0 < 256) (h1 : b1 < 256) (h2 : b2 < 256) (h3 : b3 < 256) (hk : 241 ≤ b0 ∧ b0 ≤ 243) (hb : 4 ≤ n ∧ 128 ≤ b1 ∧ b1 ≤ 191 ∧ 128 ≤ b2 ∧ b2 ≤ 191 ∧ 128 ≤ b3 ∧ b3 ≤ 191) : Lib.decodeN n b0 b1 b2 b3 = (b0 % 8 * 262144 + b1 % 64 * 4096 + b2 % 64 * 64 + b3 % 64, 4) := by
  unfold Lib.decodeN
  rw [if_neg (by omega)]
  repeat' split
  all_goals first | (exfalso; omega) | rfl
theorem decN_G_bad (n b0 b1 b2 b3 : Nat) (h0 : b0 < 256) (h1 : b1 < 256) (h2 : b2 < 256) (h3 : b3 < 256) (hk : 244 ≤ b0 ∧ b0 ≤ 244) (hb : n < 4 ∨ b1 < 128 ∨ 143 < b1 ∨ b2 < 128 ∨ 191 < b2 ∨ b3 < 128 ∨ 191 < b3) : Lib.decodeN n b0 b1 b2 b3 = (65533, 1) := by
  unfold Lib.decodeN
  rw [if_neg (by omega)]
  repeat' split
  all_goals first | (exfalso; omega) | rfl
theorem decN_G_ok (n b0 b1 b2 b3 : Nat) (h0 : b0 < 256) (h1 : b1 < 256) (h2 : b2 < 256) (h3 : b3 < 256) (hk : 244 ≤ b0 ∧ b0 ≤ 244) (hb : 4 ≤ n ∧ 128 ≤ b1 ∧ b1 ≤ 143 ∧ 128 ≤ b2 ∧ b2 ≤ 191 ∧ 128 ≤ b3 ∧ b3 ≤ 191) : Lib.decodeN n b0 b1 b2 b3 = (b0 % 8 * 262144 + b1 % 64 * 4096 + b2 % 64 * 64 + b3 % 64, 4) := by
  unfold Lib.decodeN
  rw [if_neg (by omega)]
  repeat' split
  all_goals first | (exfalso; omega) | rfl
theorem decode_any (b o cap : Nat) (bs : List UInt8) (i : Nat) (w : World) (hi : i < bs.length) (hn : bs.length ≤ 2000000) (h : Row w b o cap bs) :
    Calls Tryf.prog 36 #[.slice (some ⟨b, o, none⟩) bs.length cap, .int .i64 i] w fun e w' => e = .returned (.tuple #[.int .i32 (dec bs i).1, .int .i64 (dec bs i).2]) ∧ w = w' := by
  have x0 := bt_lt bs i
  have x1 := bt_lt bs (i + 1)
  have x2 := bt_lt bs (i + 2)
  have x3 := bt_lt bs (i + 3)
  have hd : dec bs i = Lib.decodeN (bs.length - i) (bt bs i) (bt bs (i + 1)) (bt bs (i + 2)) (bt bs (i + 3)) := rfl
  rw [hd]
  clear hd
  have hcl : bt bs i < 128 ∨ (128 ≤ bt bs i ∧ bt bs i < 194) ∨ 244 < bt bs i ∨ (194 ≤ bt bs i ∧ bt bs i ≤ 223) ∨ (224 ≤ bt bs i ∧ bt bs i ≤ 224) ∨ (237 ≤ bt bs i ∧ bt bs i ≤ 237) ∨ (225 ≤ bt bs i ∧ bt bs i ≤ 236) ∨ (238 ≤ bt bs i ∧ bt bs i ≤ 239) ∨ (240 ≤ bt bs i ∧ bt bs i ≤ 240) ∨ (241 ≤ bt bs i ∧ bt bs i ≤ 243) ∨ (244 ≤ bt bs i ∧ bt bs i ≤ 244) := by omega
  rcases hcl with hk | hk | hk | hk | hk | hk | hk | hk | hk | hk | hk
  · rw [decN_S _ _ _ _ _ hk]; exact d_S b o cap bs i _ w hi hn h rfl hk
  · rw [decN_none _ _ _ _ _ x0 x1 x2 x3 (.inl hk)]; exact d_L b o cap bs i _ w hi hn h rfl hk
  · rw [decN_none _ _ _ _ _ x0 x1 x2 x3 (.inr hk)]; exact d_H b o cap bs i _ w hi hn h rfl hk
  · by_cases hs : bs.length - i < 2
    · rw [decN_A_bad _ _ _ _ _ x0 x1 x2 x3 hk (by omega)]; exact d_A_short b o cap bs i _ w hi hn h rfl hk hs
    · have hs' : 2 ≤ bs.length - i := by omega
      by_cases q1 : 128 ≤ bt bs (i + 1) ∧ bt bs (i + 1) ≤ 191
      · rw [decN_A_ok _ _ _ _ _ x0 x1 x2 x3 hk (by omega)]; exact d_A_ok b o cap bs i _ w hi hn h rfl _ rfl hk hs' q1
      · rw [decN_A_bad _ _ _ _ _ x0 x1 x2 x3 hk (by omega)]; exact d_A_b1 b o cap bs i _ w hi hn h rfl _ rfl hk hs' (by omega)
  · by_cases hs : bs.length - i < 3
    · rw [decN_B_bad _ _ _ _ _ x0 x1 x2 x3 hk (by omega)]; exact d_B_short b o cap bs i _ w hi hn h rfl hk hs
    · have hs' : 3 ≤ bs.length - i := by omega
      by_cases q1 : bt bs (i + 1) < 160
      · rw [decN_B_bad _ _ _ _ _ x0 x1 x2 x3 hk (by omega)]; exact d_B_lo b o cap bs i _ w hi hn h rfl _ _ rfl rfl hk hs' q1
      · by_cases q2 : 191 < bt bs (i + 1)
        · rw [decN_B_bad _ _ _ _ _ x0 x1 x2 x3 hk (by omega)]; exact d_B_hi b o cap bs i _ w hi hn h rfl _ _ rfl rfl hk hs' q2
        · by_cases q3 : 128 ≤ bt bs (i + 2) ∧ bt bs (i + 2) ≤ 191
          · rw [decN_B_ok _ _ _ _ _ x0 x1 x2 x3 hk (by omega)]; exact d_B_ok b o cap bs i _ w hi hn h rfl _ _ rfl rfl hk hs' (by omega) q3
          · rw [decN_B_bad _ _ _ _ _ x0 x1 x2 x3 hk (by omega)]; exact d_B_b2 b o cap bs i _ w hi hn h rfl _ _ rfl rfl hk hs' (by omega) (by omega)
  · by_cases hs : bs.length - i < 3
    · rw [decN_C_bad _ _ _ _ _ x0 x1 x2 x3 hk (by omega)]; exact d_C_short b o cap bs i _ w hi hn h rfl hk hs
    · have hs' : 3 ≤ bs.length - i := by omega
      by_cases q1 : bt bs (i + 1) < 128
      · rw [decN_C_bad _ _ _ _ _ x0 x1 x2 x3 hk (by omega)]; exact d_C_lo b o cap bs i _ w hi hn h rfl _ _ rfl rfl hk hs' q1
      · by_cases q2 : 159 < bt bs (i + 1)
        · rw [decN_C_bad _ _ _ _ _ x0 x1 x2 x3 hk (by omega)]; exact d_C_hi b o cap bs i _ w hi hn h rfl _ _ rfl rfl hk hs' q2
        · by_cases q3 : 128 ≤ bt bs (i + 2) ∧ bt bs (i + 2) ≤ 191
          · rw [decN_C_ok _ _ _ _ _ x0 x1 x2 x3 hk (by omega)]; exact d_C_ok b o cap bs i _ w hi hn h rfl _ _ rfl rfl hk hs' (by omega) q3
          · rw [decN_C_bad _ _ _ _ _ x0 x1 x2 x3 hk (by omega)]; exact d_C_b2 b o cap bs i _ w hi hn h rfl _ _ rfl rfl hk hs' (by omega) (by omega)
  · by_cases hs : bs.length - i < 3
    · rw [decN_Da_bad _ _ _ _ _ x0 x1 x2 x3 hk (by omega)]; exact d_Da_short b o cap bs i _ w hi hn h rfl hk hs
    · have hs' : 3 ≤ bs.length - i := by omega
      by_cases q1 : bt bs (i + 1) < 128
      · rw [decN_Da_bad _ _ _ _ _ x0 x1 x2 x3 hk (by omega)]; exact d_Da_lo b o cap bs i _ w hi hn h rfl _ _ rfl rfl hk hs' q1
      · by_cases q2 : 191 < bt bs (i + 1)
        · rw [decN_Da_bad _ _ _ _ _ x0 x1 x2 x3 hk (by omega)]; exact d_Da_hi b o cap bs i _ w hi hn h rfl _ _ rfl rfl hk hs' q2
        · by_cases q3 : 128 ≤ bt bs (i + 2) ∧ bt bs (i + 2) ≤ 191
          · rw [decN_Da_ok _ _ _ _ _ x0 x1 x2 x3 hk (by omega)]; exact d_Da_ok b o cap bs i _ w hi hn h rfl _ _ rfl rfl hk hs' (by omega) q3
          · rw [decN_Da_bad _ _ _ _ _ x0 x1 x2 x3 hk (by omega)]; exact d_Da_b2 b o cap bs i _ w hi hn h rfl _ _ rfl rfl hk hs' (by omega) (by omega)
  · by_cases hs : bs.length - i < 3
    · rw [decN_Db_bad _ _ _ _ _ x0 x1 x2 x3 hk (by omega)]; exact d_Db_short b o cap bs i _ w hi hn h rfl hk hs
    · have hs' : 3 ≤ bs.length - i := by omega
      by_cases q1 : bt bs (i + 1) < 128
      · rw [decN_Db_bad _ _ _ _ _ x0 x1 x2 x3 hk (by omega)]; exact d_Db_lo b o cap bs i _ w hi hn h rfl _ _ rfl rfl hk hs' q1
      · by_cases q2 : 191 < bt bs (i + 1)
        · rw [decN_Db_bad _ _ _ _ _ x0 x1 x2 x3 hk (by omega)]; exact d_Db_hi b o cap bs i _ w hi hn h rfl _ _ rfl rfl hk hs' q2
        · by_cases q3 : 128 ≤ bt bs (i + 2) ∧ bt bs (i + 2) ≤ 191
          · rw [decN_Db_ok _ _ _ _ _ x0 x1 x2 x3 hk (by omega)]; exact d_Db_ok b o cap bs i _ w hi hn h rfl _ _ rfl rfl hk hs' (by omega) q3
          · rw [decN_Db_bad _ _ _ _ _ x0 x1 x2 x3 hk (by omega)]; exact d_Db_b2 b o cap bs i _ w hi hn h rfl _ _ rfl rfl hk hs' (by omega) (by omega)
  · by_cases hs : bs.length - i < 4
    · rw [decN_E_bad _ _ _ _ _ x0 x1 x2 x3 hk (by omega)]; exact d_E_short b o cap bs i _ w hi hn h rfl hk hs
    · have hs' : 4 ≤ bs.length - i := by omega
      by_cases q1 : bt bs (i + 1) < 144
      · rw [decN_E_bad _ _ _ _ _ x0 x1 x2 x3 hk (by omega)]; exact d_E_lo b o cap bs i _ w hi hn h rfl _ _ _ rfl rfl rfl hk hs' q1
      · by_cases q2 : 191 < bt bs (i + 1)
        · rw [decN_E_bad _ _ _ _ _ x0 x1 x2 x3 hk (by omega)]; exact d_E_hi b o cap bs i _ w hi hn h rfl _ _ _ rfl rfl rfl hk hs' q2
        · by_cases q3 : 128 ≤ bt bs (i + 2) ∧ bt bs (i + 2) ≤ 191
          · by_cases q4 : 128 ≤ bt bs (i + 3) ∧ bt bs (i + 3) ≤ 191
            · rw [decN_E_ok _ _ _ _ _ x0 x1 x2 x3 hk (by omega)]; exact d_E_ok b o cap bs i _ w hi hn h rfl _ _ _ rfl rfl rfl hk hs' (by omega) q3 q4
            · rw [decN_E_bad _ _ _ _ _ x0 x1 x2 x3 hk (by omega)]; exact d_E_b3 b o cap bs i _ w hi hn h rfl _ _ _ rfl rfl rfl hk hs' (by omega) q3 (by omega)
          · rw [decN_E_bad _ _ _ _ _ x0 x1 x2 x3 hk (by omega)]; exact d_E_b2 b o cap bs i _ w hi hn h rfl _ _ _ rfl rfl rfl hk hs' (by omega) (by omega)
  · by_cases hs : bs.length - i < 4
    · rw [decN_F_bad _ _ _ _ _ x0 x1 x2 x3 hk (by omega)]; exact d_F_short b o cap bs i _ w hi hn h rfl hk hs
    · have hs' : 4 ≤ bs.length - i := by omega
      by_cases q1 : bt bs (i + 1) < 128
      · rw [decN_F_bad _ _ _ _ _ x0 x1 x2 x3 hk (by omega)]; exact d_F_lo b o cap bs i _ w hi hn h rfl _ _ _ rfl rfl rfl hk hs' q1
      · by_cases q2 : 191 < bt bs (i + 1)
        · rw [decN_F_bad _ _ _ _ _ x0 x1 x2 x3 hk (by omega)]; exact d_F_hi b o cap bs i _ w hi hn h rfl _ _ _ rfl rfl rfl hk hs' q2
        · by_cases q3 : 128 ≤ bt bs (i + 2) ∧ bt bs (i + 2) ≤ 191
          · by_cases q4 : 128 ≤ bt bs (i + 3) ∧ bt bs (i + 3) ≤ 191
            · rw [decN_F_ok _ _ _ _ _ x0 x1 x2 x3 hk (by omega)]; exact d_F_ok b o cap bs i _ w hi hn h rfl _ _ _ rfl rfl rfl hk hs' (by omega) q3 q4
            · rw [decN_F_bad _ _ _ _ _ x0 x1 x2 x3 hk (by omega)]; exact d_F_b3 b o cap bs i _ w hi hn h rfl _ _ _ rfl rfl rfl hk hs' (by omega) q3 (by omega)
          · rw [decN_F_bad _ _ _ _ _ x0 x1 x2 x3 hk (by omega)]; exact d_F_b2 b o cap bs i _ w hi hn h rfl _ _ _ rfl rfl rfl hk hs' (by omega) (by omega)
  · by_cases hs : bs.length - i < 4
    · rw [decN_G_bad _ _ _ _ _ x0 x1 x2 x3 hk (by omega)]; exact d_G_short b o cap bs i _ w hi hn h rfl hk hs
    · have hs' : 4 ≤ bs.length - i := by omega
      by_cases q1 : bt bs (i + 1) < 128
      · rw [decN_G_bad _ _ _ _ _ x0 x1 x2 x3 hk (by omega)]; exact d_G_lo b o cap bs i _ w hi hn h rfl _ _ _ rfl rfl rfl hk hs' q1
      · by_cases q2 : 143 < bt bs (i + 1)
        · rw [decN_G_bad _ _ _ _ _ x0 x1 x2 x3 hk (by omega)]; exact d_G_hi b o cap bs i _ w hi hn h rfl _ _ _ rfl rfl rfl hk hs' q2
        · by_cases q3 : 128 ≤ bt bs (i + 2) ∧ bt bs (i + 2) ≤ 191
          · by_cases q4 : 128 ≤ bt bs (i + 3) ∧ bt bs (i + 3) ≤ 191
            · rw [decN_G_ok _ _ _ _ _ x0 x1 x2 x3 hk (by omega)]; exact d_G_ok b o cap bs i _ w hi hn h rfl _ _ _ rfl rfl rfl hk hs' (by omega) q3 q4
            · rw [decN_G_bad _ _ _ _ _ x0 x1 x2 x3 hk (by omega)]; exact d_G_b3 b o cap bs i _ w hi hn h rfl _ _ _ rfl rfl rfl hk hs' (by omega) q3 (by omega)
          · rw [decN_G_bad _ _ _ _ _ x0 x1 x2 x3 hk (by omega)]; exact d_G_b2 b o cap bs i _ w hi hn h rfl _ _ _ rfl rfl rfl hk hs' (by omega) (by omega)
end Go.Proofs.YtcaolpebjpilgaaFmt.Dec96
