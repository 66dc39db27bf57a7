/-
  Proved: n002_112's own reckoning of a character's width (zzWidth) gives the library's decoder's.
  Conditions: the text lies in memory.
-/
import Derived.Test.YtpniflbleihdoaaDoorTArg
import Derived.BigFrame
import Derived.IntWalk
import Derived.LoopN
namespace Go.Proofs.YtpniflbleihdoaaDoor.Core
open Go.ChangeShapes Go.WideShapes Go.ChangeAt Go.RowKit
set_option linter.unusedVariables false

def Row (w : World) (b o cap : Nat) (bs : List UInt8) : Prop := ∀ j, j < bs.length → w.cell? ⟨b, o + j, none⟩ = some (.int .u8 (bt bs j))

set_option maxHeartbeats 2000000 in
set_option maxRecDepth 20000 in
theorem wd_S (b o cap : Nat) (bs : List UInt8) (i c0 : Nat) (w : World) (hi : i < bs.length) (hn : bs.length ≤ 2000000) (h : Row w b o cap bs) (hc0 : bt bs i = c0) (hk : c0 < 128) :
    Calls Tryd.prog 48 #[.slice (some ⟨b, o, none⟩) bs.length cap, .int .i64 i] w fun e w' => e = .returned (.int .i64 1) ∧ w = w' := by
  have H := Lib.hid h
  have ci := h i hi
  have hi' : (i : Int) < (bs.length : Int) := by omega
  clear h
  have hc : c0 < 256 := by rw [← hc0]; exact bt_lt bs i
  rw [hc0] at ci
  clear hc0
  have t0 : decide ((c0 : Int) < 128) = true := decide_eq_true (by omega)
  go_enter Tryd.func48, Tryd.ntmps48
  go_big_wp2_with fail
  go_ret
  exact ⟨rfl, rfl⟩
set_option maxHeartbeats 2000000 in
set_option maxRecDepth 20000 in
theorem wd_L (b o cap : Nat) (bs : List UInt8) (i c0 : Nat) (w : World) (hi : i < bs.length) (hn : bs.length ≤ 2000000) (h : Row w b o cap bs) (hc0 : bt bs i = c0) (hk : 128 ≤ c0 ∧ c0 < 194) :
    Calls Tryd.prog 48 #[.slice (some ⟨b, o, none⟩) bs.length cap, .int .i64 i] w fun e w' => e = .returned (.int .i64 1) ∧ w = w' := by
  have H := Lib.hid h
  have ci := h i hi
  have hi' : (i : Int) < (bs.length : Int) := by omega
  clear h
  have hc : c0 < 256 := by rw [← hc0]; exact bt_lt bs i
  rw [hc0] at ci
  clear hc0
  have t0 : decide ((c0 : Int) < 128) = false := decide_eq_false (by omega)
  have t1 : decide ((194 : Int) ≤ (c0 : Int)) = false := decide_eq_false (by omega)
  have t2 : ((c0 : Int) == 224) = false := by simp; omega
  have t3 : decide ((225 : Int) ≤ (c0 : Int)) = false := decide_eq_false (by omega)
  have t4 : ((c0 : Int) == 237) = false := by simp; omega
  have t5 : ((c0 : Int) == 238) = false := by simp; omega
  have t6 : ((c0 : Int) == 239) = false := by simp; omega
  have t7 : ((c0 : Int) == 240) = false := by simp; omega
  have t8 : decide ((241 : Int) ≤ (c0 : Int)) = false := decide_eq_false (by omega)
  have t9 : ((c0 : Int) == 244) = false := by simp; omega
  go_enter Tryd.func48, Tryd.ntmps48
  go_big_wp2_with fail
  go_ret
  exact ⟨rfl, rfl⟩
set_option maxHeartbeats 2000000 in
set_option maxRecDepth 20000 in
theorem wd_H (b o cap : Nat) (bs : List UInt8) (i c0 : Nat) (w : World) (hi : i < bs.length) (hn : bs.length ≤ 2000000) (h : Row w b o cap bs) (hc0 : bt bs i = c0) (hk : 244 < c0) :
    Calls Tryd.prog 48 #[.slice (some ⟨b, o, none⟩) bs.length cap, .int .i64 i] w fun e w' => e = .returned (.int .i64 1) ∧ w = w' := by
  have H := Lib.hid h
  have ci := h i hi
  have hi' : (i : Int) < (bs.length : Int) := by omega
  clear h
  have hc : c0 < 256 := by rw [← hc0]; exact bt_lt bs i
  rw [hc0] at ci
  clear hc0
  have t0 : decide ((c0 : Int) < 128) = false := decide_eq_false (by omega)
  have t1 : decide ((194 : Int) ≤ (c0 : Int)) = true := decide_eq_true (by omega)
  have t2 : decide ((c0 : Int) ≤ 223) = false := decide_eq_false (by omega)
  have t3 : ((c0 : Int) == 224) = false := by simp; omega
  have t4 : decide ((225 : Int) ≤ (c0 : Int)) = true := decide_eq_true (by omega)
  have t5 : decide ((c0 : Int) ≤ 236) = false := decide_eq_false (by omega)
  have t6 : ((c0 : Int) == 237) = false := by simp; omega
  have t7 : ((c0 : Int) == 238) = false := by simp; omega
  have t8 : ((c0 : Int) == 239) = false := by simp; omega
  have t9 : ((c0 : Int) == 240) = false := by simp; omega
  have t10 : decide ((241 : Int) ≤ (c0 : Int)) = true := decide_eq_true (by omega)
  have t11 : decide ((c0 : Int) ≤ 243) = false := decide_eq_false (by omega)
  have t12 : ((c0 : Int) == 244) = false := by simp; omega
  go_enter Tryd.func48, Tryd.ntmps48
  go_big_wp2_with fail
  go_ret
  exact ⟨rfl, rfl⟩
set_option maxHeartbeats 2000000 in
set_option maxRecDepth 20000 in
theorem wd_A_short (b o cap : Nat) (bs : List UInt8) (i c0 : Nat) (w : World) (hi : i < bs.length) (hn : bs.length ≤ 2000000) (h : Row w b o cap bs) (hc0 : bt bs i = c0) (hk : 194 ≤ c0 ∧ c0 ≤ 223) (hs : bs.length - i < 2) :
    Calls Tryd.prog 48 #[.slice (some ⟨b, o, none⟩) bs.length cap, .int .i64 i] w fun e w' => e = .returned (.int .i64 1) ∧ w = w' := by
  have H := Lib.hid h
  have ci := h i hi
  have hi' : (i : Int) < (bs.length : Int) := by omega
  clear h
  have hc : c0 < 256 := by rw [← hc0]; exact bt_lt bs i
  rw [hc0] at ci
  clear hc0
  have t0 : decide ((c0 : Int) < 128) = false := decide_eq_false (by omega)
  have t1 : decide ((194 : Int) ≤ (c0 : Int)) = true := decide_eq_true (by omega)
  have t2 : decide ((c0 : Int) ≤ 223) = true := decide_eq_true (by omega)
  have s0 : decide ((bs.length : Int) - (i : Int) < 2) = true := decide_eq_true (by omega)
  go_enter Tryd.func48, Tryd.ntmps48
  go_big_wp2_with fail
  go_ret
  exact ⟨rfl, rfl⟩
set_option maxHeartbeats 2000000 in
set_option maxRecDepth 20000 in
theorem wd_A_l1 (b o cap : Nat) (bs : List UInt8) (i c0 : Nat) (w : World) (hi : i < bs.length) (hn : bs.length ≤ 2000000) (h : Row w b o cap bs) (hc0 : bt bs i = c0) (b1 : Nat) (hb1 : bt bs (i + 1) = b1) (hk : 194 ≤ c0 ∧ c0 ≤ 223) (hs : 2 ≤ bs.length - i)  (h1 : b1 < 128) :
    Calls Tryd.prog 48 #[.slice (some ⟨b, o, none⟩) bs.length cap, .int .i64 i] w fun e w' => e = .returned (.int .i64 1) ∧ w = w' := by
  have H := Lib.hid h
  have ci := h i hi
  have hi' : (i : Int) < (bs.length : Int) := by omega
  clear h
  have hc : c0 < 256 := by rw [← hc0]; exact bt_lt bs i
  rw [hc0] at ci
  clear hc0
  have t0 : decide ((c0 : Int) < 128) = false := decide_eq_false (by omega)
  have t1 : decide ((194 : Int) ≤ (c0 : Int)) = true := decide_eq_true (by omega)
  have t2 : decide ((c0 : Int) ≤ 223) = true := decide_eq_true (by omega)
  have s0 : decide ((bs.length : Int) - (i : Int) < 2) = false := decide_eq_false (by omega)
  have c1 := H.out (i + 1) (by omega)
  have i1 : (i : Int) + 1 < (bs.length : Int) := by omega
  have hx1 : b1 < 256 := by rw [← hb1]; exact bt_lt bs _
  rw [hb1] at c1
  clear hb1
  have u1 : decide ((b1 : Int) < 128) = true := decide_eq_true (by omega)
  go_enter Tryd.func48, Tryd.ntmps48
  go_big_wp2_with fail
  go_ret
  exact ⟨rfl, rfl⟩
set_option maxHeartbeats 2000000 in
set_option maxRecDepth 20000 in
theorem wd_A_g1 (b o cap : Nat) (bs : List UInt8) (i c0 : Nat) (w : World) (hi : i < bs.length) (hn : bs.length ≤ 2000000) (h : Row w b o cap bs) (hc0 : bt bs i = c0) (b1 : Nat) (hb1 : bt bs (i + 1) = b1) (hk : 194 ≤ c0 ∧ c0 ≤ 223) (hs : 2 ≤ bs.length - i)  (h1 : 191 < b1) :
    Calls Tryd.prog 48 #[.slice (some ⟨b, o, none⟩) bs.length cap, .int .i64 i] w fun e w' => e = .returned (.int .i64 1) ∧ w = w' := by
  have H := Lib.hid h
  have ci := h i hi
  have hi' : (i : Int) < (bs.length : Int) := by omega
  clear h
  have hc : c0 < 256 := by rw [← hc0]; exact bt_lt bs i
  rw [hc0] at ci
  clear hc0
  have t0 : decide ((c0 : Int) < 128) = false := decide_eq_false (by omega)
  have t1 : decide ((194 : Int) ≤ (c0 : Int)) = true := decide_eq_true (by omega)
  have t2 : decide ((c0 : Int) ≤ 223) = true := decide_eq_true (by omega)
  have s0 : decide ((bs.length : Int) - (i : Int) < 2) = false := decide_eq_false (by omega)
  have c1 := H.out (i + 1) (by omega)
  have i1 : (i : Int) + 1 < (bs.length : Int) := by omega
  have hx1 : b1 < 256 := by rw [← hb1]; exact bt_lt bs _
  rw [hb1] at c1
  clear hb1
  have u1 : decide ((b1 : Int) < 128) = false := decide_eq_false (by omega)
  have v1 : decide ((191 : Int) < (b1 : Int)) = true := decide_eq_true (by omega)
  go_enter Tryd.func48, Tryd.ntmps48
  go_big_wp2_with fail
  go_ret
  exact ⟨rfl, rfl⟩
set_option maxHeartbeats 2000000 in
set_option maxRecDepth 20000 in
theorem wd_A_ok (b o cap : Nat) (bs : List UInt8) (i c0 : Nat) (w : World) (hi : i < bs.length) (hn : bs.length ≤ 2000000) (h : Row w b o cap bs) (hc0 : bt bs i = c0) (b1 : Nat) (hb1 : bt bs (i + 1) = b1) (hk : 194 ≤ c0 ∧ c0 ≤ 223) (hs : 2 ≤ bs.length - i) (h1 : 128 ≤ b1 ∧ b1 ≤ 191) :
    Calls Tryd.prog 48 #[.slice (some ⟨b, o, none⟩) bs.length cap, .int .i64 i] w fun e w' => e = .returned (.int .i64 2) ∧ w = w' := by
  have H := Lib.hid h
  have ci := h i hi
  have hi' : (i : Int) < (bs.length : Int) := by omega
  clear h
  have hc : c0 < 256 := by rw [← hc0]; exact bt_lt bs i
  rw [hc0] at ci
  clear hc0
  have t0 : decide ((c0 : Int) < 128) = false := decide_eq_false (by omega)
  have t1 : decide ((194 : Int) ≤ (c0 : Int)) = true := decide_eq_true (by omega)
  have t2 : decide ((c0 : Int) ≤ 223) = true := decide_eq_true (by omega)
  have s0 : decide ((bs.length : Int) - (i : Int) < 2) = false := decide_eq_false (by omega)
  have c1 := H.out (i + 1) (by omega)
  have i1 : (i : Int) + 1 < (bs.length : Int) := by omega
  have hx1 : b1 < 256 := by rw [← hb1]; exact bt_lt bs _
  rw [hb1] at c1
  clear hb1
  have u1 : decide ((b1 : Int) < 128) = false := decide_eq_false (by omega)
  have v1 : decide ((191 : Int) < (b1 : Int)) = false := decide_eq_false (by omega)
  go_enter Tryd.func48, Tryd.ntmps48
  go_big_wp2_with fail
  refine wp_loop_rounds 1 ?_
  rw [rounds_succ]
  go_big_wp2_with fail
  go_ret
  exact ⟨rfl, rfl⟩
set_option maxHeartbeats 2000000 in
set_option maxRecDepth 20000 in
theorem wd_B_short (b o cap : Nat) (bs : List UInt8) (i c0 : Nat) (w : World) (hi : i < bs.length) (hn : bs.length ≤ 2000000) (h : Row w b o cap bs) (hc0 : bt bs i = c0) (hk : 224 ≤ c0 ∧ c0 ≤ 224) (hs : bs.length - i < 3) :
    Calls Tryd.prog 48 #[.slice (some ⟨b, o, none⟩) bs.length cap, .int .i64 i] w fun e w' => e = .returned (.int .i64 1) ∧ w = w' := by
  have H := Lib.hid h
  have ci := h i hi
  have hi' : (i : Int) < (bs.length : Int) := by omega
  clear h
  have hc : c0 < 256 := by rw [← hc0]; exact bt_lt bs i
  rw [hc0] at ci
  clear hc0
  have t0 : decide ((c0 : Int) < 128) = false := decide_eq_false (by omega)
  have t1 : decide ((194 : Int) ≤ (c0 : Int)) = true := decide_eq_true (by omega)
  have t2 : decide ((c0 : Int) ≤ 223) = false := decide_eq_false (by omega)
  have t3 : ((c0 : Int) == 224) = true := by simp; omega
  have s0 : decide ((bs.length : Int) - (i : Int) < 3) = true := decide_eq_true (by omega)
  go_enter Tryd.func48, Tryd.ntmps48
  go_big_wp2_with fail
  go_ret
  exact ⟨rfl, rfl⟩
set_option maxHeartbeats 2000000 in
set_option maxRecDepth 20000 in
theorem wd_B_l1 (b o cap : Nat) (bs : List UInt8) (i c0 : Nat) (w : World) (hi : i < bs.length) (hn : bs.length ≤ 2000000) (h : Row w b o cap bs) (hc0 : bt bs i = c0) (b1 b2 : Nat) (hb1 : bt bs (i + 1) = b1) (hb2 : bt bs (i + 2) = b2) (hk : 224 ≤ c0 ∧ c0 ≤ 224) (hs : 3 ≤ bs.length - i)  (h1 : b1 < 160) :
    Calls Tryd.prog 48 #[.slice (some ⟨b, o, none⟩) bs.length cap, .int .i64 i] w fun e w' => e = .returned (.int .i64 1) ∧ w = w' := by
  have H := Lib.hid h
  have ci := h i hi
  have hi' : (i : Int) < (bs.length : Int) := by omega
  clear h
  have hc : c0 < 256 := by rw [← hc0]; exact bt_lt bs i
  rw [hc0] at ci
  clear hc0
  have t0 : decide ((c0 : Int) < 128) = false := decide_eq_false (by omega)
  have t1 : decide ((194 : Int) ≤ (c0 : Int)) = true := decide_eq_true (by omega)
  have t2 : decide ((c0 : Int) ≤ 223) = false := decide_eq_false (by omega)
  have t3 : ((c0 : Int) == 224) = true := by simp; omega
  have s0 : decide ((bs.length : Int) - (i : Int) < 3) = false := decide_eq_false (by omega)
  have c1 := H.out (i + 1) (by omega)
  have i1 : (i : Int) + 1 < (bs.length : Int) := by omega
  have hx1 : b1 < 256 := by rw [← hb1]; exact bt_lt bs _
  rw [hb1] at c1
  clear hb1
  have c2 := H.out (i + 2) (by omega)
  have i2 : (i : Int) + 2 < (bs.length : Int) := by omega
  have hx2 : b2 < 256 := by rw [← hb2]; exact bt_lt bs _
  rw [hb2] at c2
  clear hb2
  have u1 : decide ((b1 : Int) < 160) = true := decide_eq_true (by omega)
  go_enter Tryd.func48, Tryd.ntmps48
  go_big_wp2_with fail
  go_ret
  exact ⟨rfl, rfl⟩
set_option maxHeartbeats 2000000 in
set_option maxRecDepth 20000 in
theorem wd_B_g1 (b o cap : Nat) (bs : List UInt8) (i c0 : Nat) (w : World) (hi : i < bs.length) (hn : bs.length ≤ 2000000) (h : Row w b o cap bs) (hc0 : bt bs i = c0) (b1 b2 : Nat) (hb1 : bt bs (i + 1) = b1) (hb2 : bt bs (i + 2) = b2) (hk : 224 ≤ c0 ∧ c0 ≤ 224) (hs : 3 ≤ bs.length - i)  (h1 : 191 < b1) :
    Calls Tryd.prog 48 #[.slice (some ⟨b, o, none⟩) bs.length cap, .int .i64 i] w fun e w' => e = .returned (.int .i64 1) ∧ w = w' := by
  have H := Lib.hid h
  have ci := h i hi
  have hi' : (i : Int) < (bs.length : Int) := by omega
  clear h
  have hc : c0 < 256 := by rw [← hc0]; exact bt_lt bs i
  rw [hc0] at ci
  clear hc0
  have t0 : decide ((c0 : Int) < 128) = false := decide_eq_false (by omega)
  have t1 : decide ((194 : Int) ≤ (c0 : Int)) = true := decide_eq_true (by omega)
  have t2 : decide ((c0 : Int) ≤ 223) = false := decide_eq_false (by omega)
  have t3 : ((c0 : Int) == 224) = true := by simp; omega
  have s0 : decide ((bs.length : Int) - (i : Int) < 3) = false := decide_eq_false (by omega)
  have c1 := H.out (i + 1) (by omega)
  have i1 : (i : Int) + 1 < (bs.length : Int) := by omega
  have hx1 : b1 < 256 := by rw [← hb1]; exact bt_lt bs _
  rw [hb1] at c1
  clear hb1
  have c2 := H.out (i + 2) (by omega)
  have i2 : (i : Int) + 2 < (bs.length : Int) := by omega
  have hx2 : b2 < 256 := by rw [← hb2]; exact bt_lt bs _
  rw [hb2] at c2
  clear hb2
  have u1 : decide ((b1 : Int) < 160) = false := decide_eq_false (by omega)
  have v1 : decide ((191 : Int) < (b1 : Int)) = true := decide_eq_true (by omega)
  go_enter Tryd.func48, Tryd.ntmps48
  go_big_wp2_with fail
  go_ret
  exact ⟨rfl, rfl⟩
set_option maxHeartbeats 2000000 in
set_option maxRecDepth 20000 in
theorem wd_B_l2 (b o cap : Nat) (bs : List UInt8) (i c0 : Nat) (w : World) (hi : i < bs.length) (hn : bs.length ≤ 2000000) (h : Row w b o cap bs) (hc0 : bt bs i = c0) (b1 b2 : Nat) (hb1 : bt bs (i + 1) = b1) (hb2 : bt bs (i + 2) = b2) (hk : 224 ≤ c0 ∧ c0 ≤ 224) (hs : 3 ≤ bs.length - i) (h1 : 160 ≤ b1 ∧ b1 ≤ 191) (h2 : b2 < 128) :
    Calls Tryd.prog 48 #[.slice (some ⟨b, o, none⟩) bs.length cap, .int .i64 i] w fun e w' => e = .returned (.int .i64 1) ∧ w = w' := by
  have H := Lib.hid h
  have ci := h i hi
  have hi' : (i : Int) < (bs.length : Int) := by omega
  clear h
  have hc : c0 < 256 := by rw [← hc0]; exact bt_lt bs i
  rw [hc0] at ci
  clear hc0
  have t0 : decide ((c0 : Int) < 128) = false := decide_eq_false (by omega)
  have t1 : decide ((194 : Int) ≤ (c0 : Int)) = true := decide_eq_true (by omega)
  have t2 : decide ((c0 : Int) ≤ 223) = false := decide_eq_false (by omega)
  have t3 : ((c0 : Int) == 224) = true := by simp; omega
  have s0 : decide ((bs.length : Int) - (i : Int) < 3) = false := decide_eq_false (by omega)
  have c1 := H.out (i + 1) (by omega)
  have i1 : (i : Int) + 1 < (bs.length : Int) := by omega
  have hx1 : b1 < 256 := by rw [← hb1]; exact bt_lt bs _
  rw [hb1] at c1
  clear hb1
  have c2 := H.out (i + 2) (by omega)
  have i2 : (i : Int) + 2 < (bs.length : Int) := by omega
  have hx2 : b2 < 256 := by rw [← hb2]; exact bt_lt bs _
  rw [hb2] at c2
  clear hb2
  have u1 : decide ((b1 : Int) < 160) = false := decide_eq_false (by omega)
  have v1 : decide ((191 : Int) < (b1 : Int)) = false := decide_eq_false (by omega)
  have u2 : decide ((b2 : Int) < 128) = true := decide_eq_true (by omega)
  go_enter Tryd.func48, Tryd.ntmps48
  go_big_wp2_with fail
  refine wp_loop_rounds 1 ?_
  rw [rounds_succ]
  go_big_wp2_with fail
  go_ret
  exact ⟨rfl, rfl⟩
set_option maxHeartbeats 2000000 in
set_option maxRecDepth 20000 in
theorem wd_B_g2 (b o cap : Nat) (bs : List UInt8) (i c0 : Nat) (w : World) (hi : i < bs.length) (hn : bs.length ≤ 2000000) (h : Row w b o cap bs) (hc0 : bt bs i = c0) (b1 b2 : Nat) (hb1 : bt bs (i + 1) = b1) (hb2 : bt bs (i + 2) = b2) (hk : 224 ≤ c0 ∧ c0 ≤ 224) (hs : 3 ≤ bs.length - i) (h1 : 160 ≤ b1 ∧ b1 ≤ 191) (h2 : 191 < b2) :
    Calls Tryd.prog 48 #[.slice (some ⟨b, o, none⟩) bs.length cap, .int .i64 i] w fun e w' => e = .returned (.int .i64 1) ∧ w = w' := by
  have H := Lib.hid h
  have ci := h i hi
  have hi' : (i : Int) < (bs.length : Int) := by omega
  clear h
  have hc : c0 < 256 := by rw [← hc0]; exact bt_lt bs i
  rw [hc0] at ci
  clear hc0
  have t0 : decide ((c0 : Int) < 128) = false := decide_eq_false (by omega)
  have t1 : decide ((194 : Int) ≤ (c0 : Int)) = true := decide_eq_true (by omega)
  have t2 : decide ((c0 : Int) ≤ 223) = false := decide_eq_false (by omega)
  have t3 : ((c0 : Int) == 224) = true := by simp; omega
  have s0 : decide ((bs.length : Int) - (i : Int) < 3) = false := decide_eq_false (by omega)
  have c1 := H.out (i + 1) (by omega)
  have i1 : (i : Int) + 1 < (bs.length : Int) := by omega
  have hx1 : b1 < 256 := by rw [← hb1]; exact bt_lt bs _
  rw [hb1] at c1
  clear hb1
  have c2 := H.out (i + 2) (by omega)
  have i2 : (i : Int) + 2 < (bs.length : Int) := by omega
  have hx2 : b2 < 256 := by rw [← hb2]; exact bt_lt bs _
  rw [hb2] at c2
  clear hb2
  have u1 : decide ((b1 : Int) < 160) = false := decide_eq_false (by omega)
  have v1 : decide ((191 : Int) < (b1 : Int)) = false := decide_eq_false (by omega)
  have u2 : decide ((b2 : Int) < 128) = false := decide_eq_false (by omega)
  have v2 : decide ((191 : Int) < (b2 : Int)) = true := decide_eq_true (by omega)
  go_enter Tryd.func48, Tryd.ntmps48
  go_big_wp2_with fail
  refine wp_loop_rounds 1 ?_
  rw [rounds_succ]
  go_big_wp2_with fail
  go_ret
  exact ⟨rfl, rfl⟩
set_option maxHeartbeats 2000000 in
set_option maxRecDepth 20000 in
theorem wd_B_ok (b o cap : Nat) (bs : List UInt8) (i c0 : Nat) (w : World) (hi : i < bs.length) (hn : bs.length ≤ 2000000) (h : Row w b o cap bs) (hc0 : bt bs i = c0) (b1 b2 : Nat) (hb1 : bt bs (i + 1) = b1) (hb2 : bt bs (i + 2) = b2) (hk : 224 ≤ c0 ∧ c0 ≤ 224) (hs : 3 ≤ bs.length - i) (h1 : 160 ≤ b1 ∧ b1 ≤ 191) (h2 : 128 ≤ b2 ∧ b2 ≤ 191) :
    Calls Tryd.prog 48 #[.slice (some ⟨b, o, none⟩) bs.length cap, .int .i64 i] w fun e w' => e = .returned (.int .i64 3) ∧ w = w' := by
  have H := Lib.hid h
  have ci := h i hi
  have hi' : (i : Int) < (bs.length : Int) := by omega
  clear h
  have hc : c0 < 256 := by rw [← hc0]; exact bt_lt bs i
  rw [hc0] at ci
  clear hc0
  have t0 : decide ((c0 : Int) < 128) = false := decide_eq_false (by omega)
  have t1 : decide ((194 : Int) ≤ (c0 : Int)) = true := decide_eq_true (by omega)
  have t2 : decide ((c0 : Int) ≤ 223) = false := decide_eq_false (by omega)
  have t3 : ((c0 : Int) == 224) = true := by simp; omega
  have s0 : decide ((bs.length : Int) - (i : Int) < 3) = false := decide_eq_false (by omega)
  have c1 := H.out (i + 1) (by omega)
  have i1 : (i : Int) + 1 < (bs.length : Int) := by omega
  have hx1 : b1 < 256 := by rw [← hb1]; exact bt_lt bs _
  rw [hb1] at c1
  clear hb1
  have c2 := H.out (i + 2) (by omega)
  have i2 : (i : Int) + 2 < (bs.length : Int) := by omega
  have hx2 : b2 < 256 := by rw [← hb2]; exact bt_lt bs _
  rw [hb2] at c2
  clear hb2
  have u1 : decide ((b1 : Int) < 160) = false := decide_eq_false (by omega)
  have v1 : decide ((191 : Int) < (b1 : Int)) = false := decide_eq_false (by omega)
  have u2 : decide ((b2 : Int) < 128) = false := decide_eq_false (by omega)
  have v2 : decide ((191 : Int) < (b2 : Int)) = false := decide_eq_false (by omega)
  go_enter Tryd.func48, Tryd.ntmps48
  go_big_wp2_with fail
  refine wp_loop_rounds 2 ?_
  rw [rounds_succ]
  go_big_wp2_with fail
  rw [rounds_succ]
  go_big_wp2_with fail
  go_ret
  exact ⟨rfl, rfl⟩
set_option maxHeartbeats 2000000 in
set_option maxRecDepth 20000 in
theorem wd_D1_short (b o cap : Nat) (bs : List UInt8) (i c0 : Nat) (w : World) (hi : i < bs.length) (hn : bs.length ≤ 2000000) (h : Row w b o cap bs) (hc0 : bt bs i = c0) (hk : 225 ≤ c0 ∧ c0 ≤ 236) (hs : bs.length - i < 3) :
    Calls Tryd.prog 48 #[.slice (some ⟨b, o, none⟩) bs.length cap, .int .i64 i] w fun e w' => e = .returned (.int .i64 1) ∧ w = w' := by
  have H := Lib.hid h
  have ci := h i hi
  have hi' : (i : Int) < (bs.length : Int) := by omega
  clear h
  have hc : c0 < 256 := by rw [← hc0]; exact bt_lt bs i
  rw [hc0] at ci
  clear hc0
  have t0 : decide ((c0 : Int) < 128) = false := decide_eq_false (by omega)
  have t1 : decide ((194 : Int) ≤ (c0 : Int)) = true := decide_eq_true (by omega)
  have t2 : decide ((c0 : Int) ≤ 223) = false := decide_eq_false (by omega)
  have t3 : ((c0 : Int) == 224) = false := by simp; omega
  have t4 : decide ((225 : Int) ≤ (c0 : Int)) = true := decide_eq_true (by omega)
  have t5 : decide ((c0 : Int) ≤ 236) = true := decide_eq_true (by omega)
  have s0 : decide ((bs.length : Int) - (i : Int) < 3) = true := decide_eq_true (by omega)
  go_enter Tryd.func48, Tryd.ntmps48
  go_big_wp2_with fail
  go_ret
  exact ⟨rfl, rfl⟩
set_option maxHeartbeats 2000000 in
set_option maxRecDepth 20000 in
theorem wd_D1_l1 (b o cap : Nat) (bs : List UInt8) (i c0 : Nat) (w : World) (hi : i < bs.length) (hn : bs.length ≤ 2000000) (h : Row w b o cap bs) (hc0 : bt bs i = c0) (b1 b2 : Nat) (hb1 : bt bs (i + 1) = b1) (hb2 : bt bs (i + 2) = b2) (hk : 225 ≤ c0 ∧ c0 ≤ 236) (hs : 3 ≤ bs.length - i)  (h1 : b1 < 128) :
    Calls Tryd.prog 48 #[.slice (some ⟨b, o, none⟩) bs.length cap, .int .i64 i] w fun e w' => e = .returned (.int .i64 1) ∧ w = w' := by
  have H := Lib.hid h
  have ci := h i hi
  have hi' : (i : Int) < (bs.length : Int) := by omega
  clear h
  have hc : c0 < 256 := by rw [← hc0]; exact bt_lt bs i
  rw [hc0] at ci
  clear hc0
  have t0 : decide ((c0 : Int) < 128) = false := decide_eq_false (by omega)
  have t1 : decide ((194 : Int) ≤ (c0 : Int)) = true := decide_eq_true (by omega)
  have t2 : decide ((c0 : Int) ≤ 223) = false := decide_eq_false (by omega)
  have t3 : ((c0 : Int) == 224) = false := by simp; omega
  have t4 : decide ((225 : Int) ≤ (c0 : Int)) = true := decide_eq_true (by omega)
  have t5 : decide ((c0 : Int) ≤ 236) = true := decide_eq_true (by omega)
  have s0 : decide ((bs.length : Int) - (i : Int) < 3) = false := decide_eq_false (by omega)
  have c1 := H.out (i + 1) (by omega)
  have i1 : (i : Int) + 1 < (bs.length : Int) := by omega
  have hx1 : b1 < 256 := by rw [← hb1]; exact bt_lt bs _
  rw [hb1] at c1
  clear hb1
  have c2 := H.out (i + 2) (by omega)
  have i2 : (i : Int) + 2 < (bs.length : Int) := by omega
  have hx2 : b2 < 256 := by rw [← hb2]; exact bt_lt bs _
  rw [hb2] at c2
  clear hb2
  have u1 : decide ((b1 : Int) < 128) = true := decide_eq_true (by omega)
  go_enter Tryd.func48, Tryd.ntmps48
  go_big_wp2_with fail
  go_ret
  exact ⟨rfl, rfl⟩
set_option maxHeartbeats 2000000 in
set_option maxRecDepth 20000 in
theorem wd_D1_g1 (b o cap : Nat) (bs : List UInt8) (i c0 : Nat) (w : World) (hi : i < bs.length) (hn : bs.length ≤ 2000000) (h : Row w b o cap bs) (hc0 : bt bs i = c0) (b1 b2 : Nat) (hb1 : bt bs (i + 1) = b1) (hb2 : bt bs (i + 2) = b2) (hk : 225 ≤ c0 ∧ c0 ≤ 236) (hs : 3 ≤ bs.length - i)  (h1 : 191 < b1) :
    Calls Tryd.prog 48 #[.slice (some ⟨b, o, none⟩) bs.length cap, .int .i64 i] w fun e w' => e = .returned (.int .i64 1) ∧ w = w' := by
  have H := Lib.hid h
  have ci := h i hi
  have hi' : (i : Int) < (bs.length : Int) := by omega
  clear h
  have hc : c0 < 256 := by rw [← hc0]; exact bt_lt bs i
  rw [hc0] at ci
  clear hc0
  have t0 : decide ((c0 : Int) < 128) = false := decide_eq_false (by omega)
  have t1 : decide ((194 : Int) ≤ (c0 : Int)) = true := decide_eq_true (by omega)
  have t2 : decide ((c0 : Int) ≤ 223) = false := decide_eq_false (by omega)
  have t3 : ((c0 : Int) == 224) = false := by simp; omega
  have t4 : decide ((225 : Int) ≤ (c0 : Int)) = true := decide_eq_true (by omega)
  have t5 : decide ((c0 : Int) ≤ 236) = true := decide_eq_true (by omega)
  have s0 : decide ((bs.length : Int) - (i : Int) < 3) = false := decide_eq_false (by omega)
  have c1 := H.out (i + 1) (by omega)
  have i1 : (i : Int) + 1 < (bs.length : Int) := by omega
  have hx1 : b1 < 256 := by rw [← hb1]; exact bt_lt bs _
  rw [hb1] at c1
  clear hb1
  have c2 := H.out (i + 2) (by omega)
  have i2 : (i : Int) + 2 < (bs.length : Int) := by omega
  have hx2 : b2 < 256 := by rw [← hb2]; exact bt_lt bs _
  rw [hb2] at c2
  clear hb2
  have u1 : decide ((b1 : Int) < 128) = false := decide_eq_false (by omega)
  have v1 : decide ((191 : Int) < (b1 : Int)) = true := decide_eq_true (by omega)
  go_enter Tryd.func48, Tryd.ntmps48
  go_big_wp2_with fail
  go_ret
  exact ⟨rfl, rfl⟩
set_option maxHeartbeats 2000000 in
set_option maxRecDepth 20000 in
theorem wd_D1_l2 (b o cap : Nat) (bs : List UInt8) (i c0 : Nat) (w : World) (hi : i < bs.length) (hn : bs.length ≤ 2000000) (h : Row w b o cap bs) (hc0 : bt bs i = c0) (b1 b2 : Nat) (hb1 : bt bs (i + 1) = b1) (hb2 : bt bs (i + 2) = b2) (hk : 225 ≤ c0 ∧ c0 ≤ 236) (hs : 3 ≤ bs.length - i) (h1 : 128 ≤ b1 ∧ b1 ≤ 191) (h2 : b2 < 128) :
    Calls Tryd.prog 48 #[.slice (some ⟨b, o, none⟩) bs.length cap, .int .i64 i] w fun e w' => e = .returned (.int .i64 1) ∧ w = w' := by
  have H := Lib.hid h
  have ci := h i hi
  have hi' : (i : Int) < (bs.length : Int) := by omega
  clear h
  have hc : c0 < 256 := by rw [← hc0]; exact bt_lt bs i
  rw [hc0] at ci
  clear hc0
  have t0 : decide ((c0 : Int) < 128) = false := decide_eq_false (by omega)
  have t1 : decide ((194 : Int) ≤ (c0 : Int)) = true := decide_eq_true (by omega)
  have t2 : decide ((c0 : Int) ≤ 223) = false := decide_eq_false (by omega)
  have t3 : ((c0 : Int) == 224) = false := by simp; omega
  have t4 : decide ((225 : Int) ≤ (c0 : Int)) = true := decide_eq_true (by omega)
  have t5 : decide ((c0 : Int) ≤ 236) = true := decide_eq_true (by omega)
  have s0 : decide ((bs.length : Int) - (i : Int) < 3) = false := decide_eq_false (by omega)
  have c1 := H.out (i + 1) (by omega)
  have i1 : (i : Int) + 1 < (bs.length : Int) := by omega
  have hx1 : b1 < 256 := by rw [← hb1]; exact bt_lt bs _
  rw [hb1] at c1
  clear hb1
  have c2 := H.out (i + 2) (by omega)
  have i2 : (i : Int) + 2 < (bs.length : Int) := by omega
  have hx2 : b2 < 256 := by rw [← hb2]; exact bt_lt bs _
  rw [hb2] at c2
  clear hb2
  have u1 : decide ((b1 : Int) < 128) = false := decide_eq_false (by omega)
  have v1 : decide ((191 : Int) < (b1 : Int)) = false := decide_eq_false (by omega)
  have u2 : decide ((b2 : Int) < 128) = true := decide_eq_true (by omega)
  go_enter Tryd.func48, Tryd.ntmps48
  go_big_wp2_with fail
  refine wp_loop_rounds 1 ?_
  rw [rounds_succ]
  go_big_wp2_with fail
  go_ret
  exact ⟨rfl, rfl⟩
set_option maxHeartbeats 2000000 in
set_option maxRecDepth 20000 in
theorem wd_D1_g2 (b o cap : Nat) (bs : List UInt8) (i c0 : Nat) (w : World) (hi : i < bs.length) (hn : bs.length ≤ 2000000) (h : Row w b o cap bs) (hc0 : bt bs i = c0) (b1 b2 : Nat) (hb1 : bt bs (i + 1) = b1) (hb2 : bt bs (i + 2) = b2) (hk : 225 ≤ c0 ∧ c0 ≤ 236) (hs : 3 ≤ bs.length - i) (h1 : 128 ≤ b1 ∧ b1 ≤ 191) (h2 : 191 < b2) :
    Calls Tryd.prog 48 #[.slice (some ⟨b, o, none⟩) bs.length cap, .int .i64 i] w fun e w' => e = .returned (.int .i64 1) ∧ w = w' := by
  have H := Lib.hid h
  have ci := h i hi
  have hi' : (i : Int) < (bs.length : Int) := by omega
  clear h
  have hc : c0 < 256 := by rw [← hc0]; exact bt_lt bs i
  rw [hc0] at ci
  clear hc0
  have t0 : decide ((c0 : Int) < 128) = false := decide_eq_false (by omega)
  have t1 : decide ((194 : Int) ≤ (c0 : Int)) = true := decide_eq_true (by omega)
  have t2 : decide ((c0 : Int) ≤ 223) = false := decide_eq_false (by omega)
  have t3 : ((c0 : Int) == 224) = false := by simp; omega
  have t4 : decide ((225 : Int) ≤ (c0 : Int)) = true := decide_eq_true (by omega)
  have t5 : decide ((c0 : Int) ≤ 236) = true := decide_eq_true (by omega)
  have s0 : decide ((bs.length : Int) - (i : Int) < 3) = false := decide_eq_false (by omega)
  have c1 := H.out (i + 1) (by omega)
  have i1 : (i : Int) + 1 < (bs.length : Int) := by omega
  have hx1 : b1 < 256 := by rw [← hb1]; exact bt_lt bs _
  rw [hb1] at c1
  clear hb1
  have c2 := H.out (i + 2) (by omega)
  have i2 : (i : Int) + 2 < (bs.length : Int) := by omega
  have hx2 : b2 < 256 := by rw [← hb2]; exact bt_lt bs _
  rw [hb2] at c2
  clear hb2
  have u1 : decide ((b1 : Int) < 128) = false := decide_eq_false (by omega)
  have v1 : decide ((191 : Int) < (b1 : Int)) = false := decide_eq_false (by omega)
  have u2 : decide ((b2 : Int) < 128) = false := decide_eq_false (by omega)
  have v2 : decide ((191 : Int) < (b2 : Int)) = true := decide_eq_true (by omega)
  go_enter Tryd.func48, Tryd.ntmps48
  go_big_wp2_with fail
  refine wp_loop_rounds 1 ?_
  rw [rounds_succ]
  go_big_wp2_with fail
  go_ret
  exact ⟨rfl, rfl⟩
set_option maxHeartbeats 2000000 in
set_option maxRecDepth 20000 in
theorem wd_D1_ok (b o cap : Nat) (bs : List UInt8) (i c0 : Nat) (w : World) (hi : i < bs.length) (hn : bs.length ≤ 2000000) (h : Row w b o cap bs) (hc0 : bt bs i = c0) (b1 b2 : Nat) (hb1 : bt bs (i + 1) = b1) (hb2 : bt bs (i + 2) = b2) (hk : 225 ≤ c0 ∧ c0 ≤ 236) (hs : 3 ≤ bs.length - i) (h1 : 128 ≤ b1 ∧ b1 ≤ 191) (h2 : 128 ≤ b2 ∧ b2 ≤ 191) :
    Calls Tryd.prog 48 #[.slice (some ⟨b, o, none⟩) bs.length cap, .int .i64 i] w fun e w' => e = .returned (.int .i64 3) ∧ w = w' := by
  have H := Lib.hid h
  have ci := h i hi
  have hi' : (i : Int) < (bs.length : Int) := by omega
  clear h
  have hc : c0 < 256 := by rw [← hc0]; exact bt_lt bs i
  rw [hc0] at ci
  clear hc0
  have t0 : decide ((c0 : Int) < 128) = false := decide_eq_false (by omega)
  have t1 : decide ((194 : Int) ≤ (c0 : Int)) = true := decide_eq_true (by omega)
  have t2 : decide ((c0 : Int) ≤ 223) = false := decide_eq_false (by omega)
  have t3 : ((c0 : Int) == 224) = false := by simp; omega
  have t4 : decide ((225 : Int) ≤ (c0 : Int)) = true := decide_eq_true (by omega)
  have t5 : decide ((c0 : Int) ≤ 236) = true := decide_eq_true (by omega)
  have s0 : decide ((bs.length : Int) - (i : Int) < 3) = false := decide_eq_false (by omega)
  have c1 := H.out (i + 1) (by omega)
  have i1 : (i : Int) + 1 < (bs.length : Int) := by omega
  have hx1 : b1 < 256 := by rw [← hb1]; exact bt_lt bs _
  rw [hb1] at c1
  clear hb1
  have c2 := H.out (i + 2) (by omega)
  have i2 : (i : Int) + 2 < (bs.length : Int) := by omega
  have hx2 : b2 < 256 := by rw [← hb2]; exact bt_lt bs _
  rw [hb2] at c2
  clear hb2
  have u1 : decide ((b1 : Int) < 128) = false := decide_eq_false (by omega)
  have v1 : decide ((191 : Int) < (b1 : Int)) = false := decide_eq_false (by omega)
  have u2 : decide ((b2 : Int) < 128) = false := decide_eq_false (by omega)
  have v2 : decide ((191 : Int) < (b2 : Int)) = false := decide_eq_false (by omega)
  go_enter Tryd.func48, Tryd.ntmps48
  go_big_wp2_with fail
  refine wp_loop_rounds 2 ?_
  rw [rounds_succ]
  go_big_wp2_with fail
  rw [rounds_succ]
  go_big_wp2_with fail
  go_ret
  exact ⟨rfl, rfl⟩
set_option maxHeartbeats 2000000 in
set_option maxRecDepth 20000 in
theorem wd_C_short (b o cap : Nat) (bs : List UInt8) (i c0 : Nat) (w : World) (hi : i < bs.length) (hn : bs.length ≤ 2000000) (h : Row w b o cap bs) (hc0 : bt bs i = c0) (hk : 237 ≤ c0 ∧ c0 ≤ 237) (hs : bs.length - i < 3) :
    Calls Tryd.prog 48 #[.slice (some ⟨b, o, none⟩) bs.length cap, .int .i64 i] w fun e w' => e = .returned (.int .i64 1) ∧ w = w' := by
  have H := Lib.hid h
  have ci := h i hi
  have hi' : (i : Int) < (bs.length : Int) := by omega
  clear h
  have hc : c0 < 256 := by rw [← hc0]; exact bt_lt bs i
  rw [hc0] at ci
  clear hc0
  have t0 : decide ((c0 : Int) < 128) = false := decide_eq_false (by omega)
  have t1 : decide ((194 : Int) ≤ (c0 : Int)) = true := decide_eq_true (by omega)
  have t2 : decide ((c0 : Int) ≤ 223) = false := decide_eq_false (by omega)
  have t3 : ((c0 : Int) == 224) = false := by simp; omega
  have t4 : decide ((225 : Int) ≤ (c0 : Int)) = true := decide_eq_true (by omega)
  have t5 : decide ((c0 : Int) ≤ 236) = false := decide_eq_false (by omega)
  have t6 : ((c0 : Int) == 237) = true := by simp; omega
  have s0 : decide ((bs.length : Int) - (i : Int) < 3) = true := decide_eq_true (by omega)
  go_enter Tryd.func48, Tryd.ntmps48
  go_big_wp2_with fail
  go_ret
  exact ⟨rfl, rfl⟩
set_option maxHeartbeats 2000000 in
set_option maxRecDepth 20000 in
theorem wd_C_l1 (b o cap : Nat) (bs : List UInt8) (i c0 : Nat) (w : World) (hi : i < bs.length) (hn : bs.length ≤ 2000000) (h : Row w b o cap bs) (hc0 : bt bs i = c0) (b1 b2 : Nat) (hb1 : bt bs (i + 1) = b1) (hb2 : bt bs (i + 2) = b2) (hk : 237 ≤ c0 ∧ c0 ≤ 237) (hs : 3 ≤ bs.length - i)  (h1 : b1 < 128) :
    Calls Tryd.prog 48 #[.slice (some ⟨b, o, none⟩) bs.length cap, .int .i64 i] w fun e w' => e = .returned (.int .i64 1) ∧ w = w' := by
  have H := Lib.hid h
  have ci := h i hi
  have hi' : (i : Int) < (bs.length : Int) := by omega
  clear h
  have hc : c0 < 256 := by rw [← hc0]; exact bt_lt bs i
  rw [hc0] at ci
  clear hc0
  have t0 : decide ((c0 : Int) < 128) = false := decide_eq_false (by omega)
  have t1 : decide ((194 : Int) ≤ (c0 : Int)) = true := decide_eq_true (by omega)
  have t2 : decide ((c0 : Int) ≤ 223) = false := decide_eq_false (by omega)
  have t3 : ((c0 : Int) == 224) = false := by simp; omega
  have t4 : decide ((225 : Int) ≤ (c0 : Int)) = true := decide_eq_true (by omega)
  have t5 : decide ((c0 : Int) ≤ 236) = false := decide_eq_false (by omega)
  have t6 : ((c0 : Int) == 237) = true := by simp; omega
  have s0 : decide ((bs.length : Int) - (i : Int) < 3) = false := decide_eq_false (by omega)
  have c1 := H.out (i + 1) (by omega)
  have i1 : (i : Int) + 1 < (bs.length : Int) := by omega
  have hx1 : b1 < 256 := by rw [← hb1]; exact bt_lt bs _
  rw [hb1] at c1
  clear hb1
  have c2 := H.out (i + 2) (by omega)
  have i2 : (i : Int) + 2 < (bs.length : Int) := by omega
  have hx2 : b2 < 256 := by rw [← hb2]; exact bt_lt bs _
  rw [hb2] at c2
  clear hb2
  have u1 : decide ((b1 : Int) < 128) = true := decide_eq_true (by omega)
  go_enter Tryd.func48, Tryd.ntmps48
  go_big_wp2_with fail
  go_ret
  exact ⟨rfl, rfl⟩
set_option maxHeartbeats 2000000 in
set_option maxRecDepth 20000 in
theorem wd_C_g1 (b o cap : Nat) (bs : List UInt8) (i c0 : Nat) (w : World) (hi : i < bs.length) (hn : bs.length ≤ 2000000) (h : Row w b o cap bs) (hc0 : bt bs i = c0) (b1 b2 : Nat) (hb1 : bt bs (i + 1) = b1) (hb2 : bt bs (i + 2) = b2) (hk : 237 ≤ c0 ∧ c0 ≤ 237) (hs : 3 ≤ bs.length - i)  (h1 : 159 < b1) :
    Calls Tryd.prog 48 #[.slice (some ⟨b, o, none⟩) bs.length cap, .int .i64 i] w fun e w' => e = .returned (.int .i64 1) ∧ w = w' := by
  have H := Lib.hid h
  have ci := h i hi
  have hi' : (i : Int) < (bs.length : Int) := by omega
  clear h
  have hc : c0 < 256 := by rw [← hc0]; exact bt_lt bs i
  rw [hc0] at ci
  clear hc0
  have t0 : decide ((c0 : Int) < 128) = false := decide_eq_false (by omega)
  have t1 : decide ((194 : Int) ≤ (c0 : Int)) = true := decide_eq_true (by omega)
  have t2 : decide ((c0 : Int) ≤ 223) = false := decide_eq_false (by omega)
  have t3 : ((c0 : Int) == 224) = false := by simp; omega
  have t4 : decide ((225 : Int) ≤ (c0 : Int)) = true := decide_eq_true (by omega)
  have t5 : decide ((c0 : Int) ≤ 236) = false := decide_eq_false (by omega)
  have t6 : ((c0 : Int) == 237) = true := by simp; omega
  have s0 : decide ((bs.length : Int) - (i : Int) < 3) = false := decide_eq_false (by omega)
  have c1 := H.out (i + 1) (by omega)
  have i1 : (i : Int) + 1 < (bs.length : Int) := by omega
  have hx1 : b1 < 256 := by rw [← hb1]; exact bt_lt bs _
  rw [hb1] at c1
  clear hb1
  have c2 := H.out (i + 2) (by omega)
  have i2 : (i : Int) + 2 < (bs.length : Int) := by omega
  have hx2 : b2 < 256 := by rw [← hb2]; exact bt_lt bs _
  rw [hb2] at c2
  clear hb2
  have u1 : decide ((b1 : Int) < 128) = false := decide_eq_false (by omega)
  have v1 : decide ((159 : Int) < (b1 : Int)) = true := decide_eq_true (by omega)
  go_enter Tryd.func48, Tryd.ntmps48
  go_big_wp2_with fail
  go_ret
  exact ⟨rfl, rfl⟩
set_option maxHeartbeats 2000000 in
set_option maxRecDepth 20000 in
theorem wd_C_l2 (b o cap : Nat) (bs : List UInt8) (i c0 : Nat) (w : World) (hi : i < bs.length) (hn : bs.length ≤ 2000000) (h : Row w b o cap bs) (hc0 : bt bs i = c0) (b1 b2 : Nat) (hb1 : bt bs (i + 1) = b1) (hb2 : bt bs (i + 2) = b2) (hk : 237 ≤ c0 ∧ c0 ≤ 237) (hs : 3 ≤ bs.length - i) (h1 : 128 ≤ b1 ∧ b1 ≤ 159) (h2 : b2 < 128) :
    Calls Tryd.prog 48 #[.slice (some ⟨b, o, none⟩) bs.length cap, .int .i64 i] w fun e w' => e = .returned (.int .i64 1) ∧ w = w' := by
  have H := Lib.hid h
  have ci := h i hi
  have hi' : (i : Int) < (bs.length : Int) := by omega
  clear h
  have hc : c0 < 256 := by rw [← hc0]; exact bt_lt bs i
  rw [hc0] at ci
  clear hc0
  have t0 : decide ((c0 : Int) < 128) = false := decide_eq_false (by omega)
  have t1 : decide ((194 : Int) ≤ (c0 : Int)) = true := decide_eq_true (by omega)
  have t2 : decide ((c0 : Int) ≤ 223) = false := decide_eq_false (by omega)
  have t3 : ((c0 : Int) == 224) = false := by simp; omega
  have t4 : decide ((225 : Int) ≤ (c0 : Int)) = true := decide_eq_true (by omega)
  have t5 : decide ((c0 : Int) ≤ 236) = false := decide_eq_false (by omega)
  have t6 : ((c0 : Int) == 237) = true := by simp; omega
  have s0 : decide ((bs.length : Int) - (i : Int) < 3) = false := decide_eq_false (by omega)
  have c1 := H.out (i + 1) (by omega)
  have i1 : (i : Int) + 1 < (bs.length : Int) := by omega
  have hx1 : b1 < 256 := by rw [← hb1]; exact bt_lt bs _
  rw [hb1] at c1
  clear hb1
  have c2 := H.out (i + 2) (by omega)
  have i2 : (i : Int) + 2 < (bs.length : Int) := by omega
  have hx2 : b2 < 256 := by rw [← hb2]; exact bt_lt bs _
  rw [hb2] at c2
  clear hb2
  have u1 : decide ((b1 : Int) < 128) = false := decide_eq_false (by omega)
  have v1 : decide ((159 : Int) < (b1 : Int)) = false := decide_eq_false (by omega)
  have u2 : decide ((b2 : Int) < 128) = true := decide_eq_true (by omega)
  go_enter Tryd.func48, Tryd.ntmps48
  go_big_wp2_with fail
  refine wp_loop_rounds 1 ?_
  rw [rounds_succ]
  go_big_wp2_with fail
  go_ret
  exact ⟨rfl, rfl⟩
set_option maxHeartbeats 2000000 in
set_option maxRecDepth 20000 in
theorem wd_C_g2 (b o cap : Nat) (bs : List UInt8) (i c0 : Nat) (w : World) (hi : i < bs.length) (hn : bs.length ≤ 2000000) (h : Row w b o cap bs) (hc0 : bt bs i = c0) (b1 b2 : Nat) (hb1 : bt bs (i + 1) = b1) (hb2 : bt bs (i + 2) = b2) (hk : 237 ≤ c0 ∧ c0 ≤ 237) (hs : 3 ≤ bs.length - i) (h1 : 128 ≤ b1 ∧ b1 ≤ 159) (h2 : 191 < b2) :
    Calls Tryd.prog 48 #[.slice (some ⟨b, o, none⟩) bs.length cap, .int .i64 i] w fun e w' => e = .returned (.int .i64 1) ∧ w = w' := by
  have H := Lib.hid h
  have ci := h i hi
  have hi' : (i : Int) < (bs.length : Int) := by omega
  clear h
  have hc : c0 < 256 := by rw [← hc0]; exact bt_lt bs i
  rw [hc0] at ci
  clear hc0
  have t0 : decide ((c0 : Int) < 128) = false := decide_eq_false (by omega)
  have t1 : decide ((194 : Int) ≤ (c0 : Int)) = true := decide_eq_true (by omega)
  have t2 : decide ((c0 : Int) ≤ 223) = false := decide_eq_false (by omega)
  have t3 : ((c0 : Int) == 224) = false := by simp; omega
  have t4 : decide ((225 : Int) ≤ (c0 : Int)) = true := decide_eq_true (by omega)
  have t5 : decide ((c0 : Int) ≤ 236) = false := decide_eq_false (by omega)
  have t6 : ((c0 : Int) == 237) = true := by simp; omega
  have s0 : decide ((bs.length : Int) - (i : Int) < 3) = false := decide_eq_false (by omega)
  have c1 := H.out (i + 1) (by omega)
  have i1 : (i : Int) + 1 < (bs.length : Int) := by omega
  have hx1 : b1 < 256 := by rw [← hb1]; exact bt_lt bs _
  rw [hb1] at c1
  clear hb1
  have c2 := H.out (i + 2) (by omega)
  have i2 : (i : Int) + 2 < (bs.length : Int) := by omega
  have hx2 : b2 < 256 := by rw [← hb2]; exact bt_lt bs _
  rw [hb2] at c2
  clear hb2
  have u1 : decide ((b1 : Int) < 128) = false := decide_eq_false (by omega)
  have v1 : decide ((159 : Int) < (b1 : Int)) = false := decide_eq_false (by omega)
  have u2 : decide ((b2 : Int) < 128) = false := decide_eq_false (by omega)
  have v2 : decide ((191 : Int) < (b2 : Int)) = true := decide_eq_true (by omega)
  go_enter Tryd.func48, Tryd.ntmps48
  go_big_wp2_with fail
  refine wp_loop_rounds 1 ?_
  rw [rounds_succ]
  go_big_wp2_with fail
  go_ret
  exact ⟨rfl, rfl⟩
set_option maxHeartbeats 2000000 in
set_option maxRecDepth 20000 in
theorem wd_C_ok (b o cap : Nat) (bs : List UInt8) (i c0 : Nat) (w : World) (hi : i < bs.length) (hn : bs.length ≤ 2000000) (h : Row w b o cap bs) (hc0 : bt bs i = c0) (b1 b2 : Nat) (hb1 : bt bs (i + 1) = b1) (hb2 : bt bs (i + 2) = b2) (hk : 237 ≤ c0 ∧ c0 ≤ 237) (hs : 3 ≤ bs.length - i) (h1 : 128 ≤ b1 ∧ b1 ≤ 159) (h2 : 128 ≤ b2 ∧ b2 ≤ 191) :
    Calls Tryd.prog 48 #[.slice (some ⟨b, o, none⟩) bs.length cap, .int .i64 i] w fun e w' => e = .returned (.int .i64 3) ∧ w = w' := by
  have H := Lib.hid h
  have ci := h i hi
  have hi' : (i : Int) < (bs.length : Int) := by omega
  clear h
  have hc : c0 < 256 := by rw [← hc0]; exact bt_lt bs i
  rw [hc0] at ci
  clear hc0
  have t0 : decide ((c0 : Int) < 128) = false := decide_eq_false (by omega)
  have t1 : decide ((194 : Int) ≤ (c0 : Int)) = true := decide_eq_true (by omega)
  have t2 : decide ((c0 : Int) ≤ 223) = false := decide_eq_false (by omega)
  have t3 : ((c0 : Int) == 224) = false := by simp; omega
  have t4 : decide ((225 : Int) ≤ (c0 : Int)) = true := decide_eq_true (by omega)
  have t5 : decide ((c0 : Int) ≤ 236) = false := decide_eq_false (by omega)
  have t6 : ((c0 : Int) == 237) = true := by simp; omega
  have s0 : decide ((bs.length : Int) - (i : Int) < 3) = false := decide_eq_false (by omega)
  have c1 := H.out (i + 1) (by omega)
  have i1 : (i : Int) + 1 < (bs.length : Int) := by omega
  have hx1 : b1 < 256 := by rw [← hb1]; exact bt_lt bs _
  rw [hb1] at c1
  clear hb1
  have c2 := H.out (i + 2) (by omega)
  have i2 : (i : Int) + 2 < (bs.length : Int) := by omega
  have hx2 : b2 < 256 := by rw [← hb2]; exact bt_lt bs _
  rw [hb2] at c2
  clear hb2
  have u1 : decide ((b1 : Int) < 128) = false := decide_eq_false (by omega)
  have v1 : decide ((159 : Int) < (b1 : Int)) = false := decide_eq_false (by omega)
  have u2 : decide ((b2 : Int) < 128) = false := decide_eq_false (by omega)
  have v2 : decide ((191 : Int) < (b2 : Int)) = false := decide_eq_false (by omega)
  go_enter Tryd.func48, Tryd.ntmps48
  go_big_wp2_with fail
  refine wp_loop_rounds 2 ?_
  rw [rounds_succ]
  go_big_wp2_with fail
  rw [rounds_succ]
  go_big_wp2_with fail
  go_ret
  exact ⟨rfl, rfl⟩
set_option maxHeartbeats 2000000 in
set_option maxRecDepth 20000 in
theorem wd_D2_short (b o cap : Nat) (bs : List UInt8) (i c0 : Nat) (w : World) (hi : i < bs.length) (hn : bs.length ≤ 2000000) (h : Row w b o cap bs) (hc0 : bt bs i = c0) (hk : 238 ≤ c0 ∧ c0 ≤ 238) (hs : bs.length - i < 3) :
    Calls Tryd.prog 48 #[.slice (some ⟨b, o, none⟩) bs.length cap, .int .i64 i] w fun e w' => e = .returned (.int .i64 1) ∧ w = w' := by
  have H := Lib.hid h
  have ci := h i hi
  have hi' : (i : Int) < (bs.length : Int) := by omega
  clear h
  have hc : c0 < 256 := by rw [← hc0]; exact bt_lt bs i
  rw [hc0] at ci
  clear hc0
  have t0 : decide ((c0 : Int) < 128) = false := decide_eq_false (by omega)
  have t1 : decide ((194 : Int) ≤ (c0 : Int)) = true := decide_eq_true (by omega)
  have t2 : decide ((c0 : Int) ≤ 223) = false := decide_eq_false (by omega)
  have t3 : ((c0 : Int) == 224) = false := by simp; omega
  have t4 : decide ((225 : Int) ≤ (c0 : Int)) = true := decide_eq_true (by omega)
  have t5 : decide ((c0 : Int) ≤ 236) = false := decide_eq_false (by omega)
  have t6 : ((c0 : Int) == 237) = false := by simp; omega
  have t7 : ((c0 : Int) == 238) = true := by simp; omega
  have s0 : decide ((bs.length : Int) - (i : Int) < 3) = true := decide_eq_true (by omega)
  go_enter Tryd.func48, Tryd.ntmps48
  go_big_wp2_with fail
  go_ret
  exact ⟨rfl, rfl⟩
set_option maxHeartbeats 2000000 in
set_option maxRecDepth 20000 in
theorem wd_D2_l1 (b o cap : Nat) (bs : List UInt8) (i c0 : Nat) (w : World) (hi : i < bs.length) (hn : bs.length ≤ 2000000) (h : Row w b o cap bs) (hc0 : bt bs i = c0) (b1 b2 : Nat) (hb1 : bt bs (i + 1) = b1) (hb2 : bt bs (i + 2) = b2) (hk : 238 ≤ c0 ∧ c0 ≤ 238) (hs : 3 ≤ bs.length - i)  (h1 : b1 < 128) :
    Calls Tryd.prog 48 #[.slice (some ⟨b, o, none⟩) bs.length cap, .int .i64 i] w fun e w' => e = .returned (.int .i64 1) ∧ w = w' := by
  have H := Lib.hid h
  have ci := h i hi
  have hi' : (i : Int) < (bs.length : Int) := by omega
  clear h
  have hc : c0 < 256 := by rw [← hc0]; exact bt_lt bs i
  rw [hc0] at ci
  clear hc0
  have t0 : decide ((c0 : Int) < 128) = false := decide_eq_false (by omega)
  have t1 : decide ((194 : Int) ≤ (c0 : Int)) = true := decide_eq_true (by omega)
  have t2 : decide ((c0 : Int) ≤ 223) = false := decide_eq_false (by omega)
  have t3 : ((c0 : Int) == 224) = false := by simp; omega
  have t4 : decide ((225 : Int) ≤ (c0 : Int)) = true := decide_eq_true (by omega)
  have t5 : decide ((c0 : Int) ≤ 236) = false := decide_eq_false (by omega)
  have t6 : ((c0 : Int) == 237) = false := by simp; omega
  have t7 : ((c0 : Int) == 238) = true := by simp; omega
  have s0 : decide ((bs.length : Int) - (i : Int) < 3) = false := decide_eq_false (by omega)
  have c1 := H.out (i + 1) (by omega)
  have i1 : (i : Int) + 1 < (bs.length : Int) := by omega
  have hx1 : b1 < 256 := by rw [← hb1]; exact bt_lt bs _
  rw [hb1] at c1
  clear hb1
  have c2 := H.out (i + 2) (by omega)
  have i2 : (i : Int) + 2 < (bs.length : Int) := by omega
  have hx2 : b2 < 256 := by rw [← hb2]; exact bt_lt bs _
  rw [hb2] at c2
  clear hb2
  have u1 : decide ((b1 : Int) < 128) = true := decide_eq_true (by omega)
  go_enter Tryd.func48, Tryd.ntmps48
  go_big_wp2_with fail
  go_ret
  exact ⟨rfl, rfl⟩
set_option maxHeartbeats 2000000 in
set_option maxRecDepth 20000 in
theorem wd_D2_g1 (b o cap : Nat) (bs : List UInt8) (i c0 : Nat) (w : World) (hi : i < bs.length) (hn : bs.length ≤ 2000000) (h : Row w b o cap bs) (hc0 : bt bs i = c0) (b1 b2 : Nat) (hb1 : bt bs (i + 1) = b1) (hb2 : bt bs (i + 2) = b2) (hk : 238 ≤ c0 ∧ c0 ≤ 238) (hs : 3 ≤ bs.length - i)  (h1 : 191 < b1) :
    Calls Tryd.prog 48 #[.slice (some ⟨b, o, none⟩) bs.length cap, .int .i64 i] w fun e w' => e = .returned (.int .i64 1) ∧ w = w' := by
  have H := Lib.hid h
  have ci := h i hi
  have hi' : (i : Int) < (bs.length : Int) := by omega
  clear h
  have hc : c0 < 256 := by rw [← hc0]; exact bt_lt bs i
  rw [hc0] at ci
  clear hc0
  have t0 : decide ((c0 : Int) < 128) = false := decide_eq_false (by omega)
  have t1 : decide ((194 : Int) ≤ (c0 : Int)) = true := decide_eq_true (by omega)
  have t2 : decide ((c0 : Int) ≤ 223) = false := decide_eq_false (by omega)
  have t3 : ((c0 : Int) == 224) = false := by simp; omega
  have t4 : decide ((225 : Int) ≤ (c0 : Int)) = true := decide_eq_true (by omega)
  have t5 : decide ((c0 : Int) ≤ 236) = false := decide_eq_false (by omega)
  have t6 : ((c0 : Int) == 237) = false := by simp; omega
  have t7 : ((c0 : Int) == 238) = true := by simp; omega
  have s0 : decide ((bs.length : Int) - (i : Int) < 3) = false := decide_eq_false (by omega)
  have c1 := H.out (i + 1) (by omega)
  have i1 : (i : Int) + 1 < (bs.length : Int) := by omega
  have hx1 : b1 < 256 := by rw [← hb1]; exact bt_lt bs _
  rw [hb1] at c1
  clear hb1
  have c2 := H.out (i + 2) (by omega)
  have i2 : (i : Int) + 2 < (bs.length : Int) := by omega
  have hx2 : b2 < 256 := by rw [← hb2]; exact bt_lt bs _
  rw [hb2] at c2
  clear hb2
  have u1 : decide ((b1 : Int) < 128) = false := decide_eq_false (by omega)
  have v1 : decide ((191 : Int) < (b1 : Int)) = true := decide_eq_true (by omega)
  go_enter Tryd.func48, Tryd.ntmps48
  go_big_wp2_with fail
  go_ret
  exact ⟨rfl, rfl⟩
set_option maxHeartbeats 2000000 in
set_option maxRecDepth 20000 in
theorem wd_D2_l2 (b o cap : Nat) (bs : List UInt8) (i c0 : Nat) (w : World) (hi : i < bs.length) (hn : bs.length ≤ 2000000) (h : Row w b o cap bs) (hc0 : bt bs i = c0) (b1 b2 : Nat) (hb1 : bt bs (i + 1) = b1) (hb2 : bt bs (i + 2) = b2) (hk : 238 ≤ c0 ∧ c0 ≤ 238) (hs : 3 ≤ bs.length - i) (h1 : 128 ≤ b1 ∧ b1 ≤ 191) (h2 : b2 < 128) :
    Calls Tryd.prog 48 #[.slice (some ⟨b, o, none⟩) bs.length cap, .int .i64 i] w fun e w' => e = .returned (.int .i64 1) ∧ w = w' := by
  have H := Lib.hid h
  have ci := h i hi
  have hi' : (i : Int) < (bs.length : Int) := by omega
  clear h
  have hc : c0 < 256 := by rw [← hc0]; exact bt_lt bs i
  rw [hc0] at ci
  clear hc0
  have t0 : decide ((c0 : Int) < 128) = false := decide_eq_false (by omega)
  have t1 : decide ((194 : Int) ≤ (c0 : Int)) = true := decide_eq_true (by omega)
  have t2 : decide ((c0 : Int) ≤ 223) = false := decide_eq_false (by omega)
  have t3 : ((c0 : Int) == 224) = false := by simp; omega
  have t4 : decide ((225 : Int) ≤ (c0 : Int)) = true := decide_eq_true (by omega)
  have t5 : decide ((c0 : Int) ≤ 236) = false := decide_eq_false (by omega)
  have t6 : ((c0 : Int) == 237) = false := by simp; omega
  have t7 : ((c0 : Int) == 238) = true := by simp; omega
  have s0 : decide ((bs.length : Int) - (i : Int) < 3) = false := decide_eq_false (by omega)
  have c1 := H.out (i + 1) (by omega)
  have i1 : (i : Int) + 1 < (bs.length : Int) := by omega
  have hx1 : b1 < 256 := by rw [← hb1]; exact bt_lt bs _
  rw [hb1] at c1
  clear hb1
  have c2 := H.out (i + 2) (by omega)
  have i2 : (i : Int) + 2 < (bs.length : Int) := by omega
  have hx2 : b2 < 256 := by rw [← hb2]; exact bt_lt bs _
  rw [hb2] at c2
  clear hb2
  have u1 : decide ((b1 : Int) < 128) = false := decide_eq_false (by omega)
  have v1 : decide ((191 : Int) < (b1 : Int)) = false := decide_eq_false (by omega)
  have u2 : decide ((b2 : Int) < 128) = true := decide_eq_true (by omega)
  go_enter Tryd.func48, Tryd.ntmps48
  go_big_wp2_with fail
  refine wp_loop_rounds 1 ?_
  rw [rounds_succ]
  go_big_wp2_with fail
  go_ret
  exact ⟨rfl, rfl⟩
set_option maxHeartbeats 2000000 in
set_option maxRecDepth 20000 in
theorem wd_D2_g2 (b o cap : Nat) (bs : List UInt8) (i c0 : Nat) (w : World) (hi : i < bs.length) (hn : bs.length ≤ 2000000) (h : Row w b o cap bs) (hc0 : bt bs i = c0) (b1 b2 : Nat) (hb1 : bt bs (i + 1) = b1) (hb2 : bt bs (i + 2) = b2) (hk : 238 ≤ c0 ∧ c0 ≤ 238) (hs : 3 ≤ bs.length - i) (h1 : 128 ≤ b1 ∧ b1 ≤ 191) (h2 : 191 < b2) :
    Calls Tryd.prog 48 #[.slice (some ⟨b, o, none⟩) bs.length cap, .int .i64 i] w fun e w' => e = .returned (.int .i64 1) ∧ w = w' := by
  have H := Lib.hid h
  have ci := h i hi
  have hi' : (i : Int) < (bs.length : Int) := by omega
  clear h
  have hc : c0 < 256 := by rw [← hc0]; exact bt_lt bs i
  rw [hc0] at ci
  clear hc0
  have t0 : decide ((c0 : Int) < 128) = false := decide_eq_false (by omega)
  have t1 : decide ((194 : Int) ≤ (c0 : Int)) = true := decide_eq_true (by omega)
  have t2 : decide ((c0 : Int) ≤ 223) = false := decide_eq_false (by omega)
  have t3 : ((c0 : Int) == 224) = false := by simp; omega
  have t4 : decide ((225 : Int) ≤ (c0 : Int)) = true := decide_eq_true (by omega)
  have t5 : decide ((c0 : Int) ≤ 236) = false := decide_eq_false (by omega)
  have t6 : ((c0 : Int) == 237) = false := by simp; omega
  have t7 : ((c0 : Int) == 238) = true := by simp; omega
  have s0 : decide ((bs.length : Int) - (i : Int) < 3) = false := decide_eq_false (by omega)
  have c1 := H.out (i + 1) (by omega)
  have i1 : (i : Int) + 1 < (bs.length : Int) := by omega
  have hx1 : b1 < 256 := by rw [← hb1]; exact bt_lt bs _
  rw [hb1] at c1
  clear hb1
  have c2 := H.out (i + 2) (by omega)
  have i2 : (i : Int) + 2 < (bs.length : Int) := by omega
  have hx2 : b2 < 256 := by rw [← hb2]; exact bt_lt bs _
  rw [hb2] at c2
  clear hb2
  have u1 : decide ((b1 : Int) < 128) = false := decide_eq_false (by omega)
  have v1 : decide ((191 : Int) < (b1 : Int)) = false := decide_eq_false (by omega)
  have u2 : decide ((b2 : Int) < 128) = false := decide_eq_false (by omega)
  have v2 : decide ((191 : Int) < (b2 : Int)) = true := decide_eq_true (by omega)
  go_enter Tryd.func48, Tryd.ntmps48
  go_big_wp2_with fail
  refine wp_loop_rounds 1 ?_
  rw [rounds_succ]
  go_big_wp2_with fail
  go_ret
  exact ⟨rfl, rfl⟩
set_option maxHeartbeats 2000000 in
set_option maxRecDepth 20000 in
theorem wd_D2_ok (b o cap : Nat) (bs : List UInt8) (i c0 : Nat) (w : World) (hi : i < bs.length) (hn : bs.length ≤ 2000000) (h : Row w b o cap bs) (hc0 : bt bs i = c0) (b1 b2 : Nat) (hb1 : bt bs (i + 1) = b1) (hb2 : bt bs (i + 2) = b2) (hk : 238 ≤ c0 ∧ c0 ≤ 238) (hs : 3 ≤ bs.length - i) (h1 : 128 ≤ b1 ∧ b1 ≤ 191) (h2 : 128 ≤ b2 ∧ b2 ≤ 191) :
    Calls Tryd.prog 48 #[.slice (some ⟨b, o, none⟩) bs.length cap, .int .i64 i] w fun e w' => e = .returned (.int .i64 3) ∧ w = w' := by
  have H := Lib.hid h
  have ci := h i hi
  have hi' : (i : Int) < (bs.length : Int) := by omega
  clear h
  have hc : c0 < 256 := by rw [← hc0]; exact bt_lt bs i
  rw [hc0] at ci
  clear hc0
  have t0 : decide ((c0 : Int) < 128) = false := decide_eq_false (by omega)
  have t1 : decide ((194 : Int) ≤ (c0 : Int)) = true := decide_eq_true (by omega)
  have t2 : decide ((c0 : Int) ≤ 223) = false := decide_eq_false (by omega)
  have t3 : ((c0 : Int) == 224) = false := by simp; omega
  have t4 : decide ((225 : Int) ≤ (c0 : Int)) = true := decide_eq_true (by omega)
  have t5 : decide ((c0 : Int) ≤ 236) = false := decide_eq_false (by omega)
  have t6 : ((c0 : Int) == 237) = false := by simp; omega
  have t7 : ((c0 : Int) == 238) = true := by simp; omega
  have s0 : decide ((bs.length : Int) - (i : Int) < 3) = false := decide_eq_false (by omega)
  have c1 := H.out (i + 1) (by omega)
  have i1 : (i : Int) + 1 < (bs.length : Int) := by omega
  have hx1 : b1 < 256 := by rw [← hb1]; exact bt_lt bs _
  rw [hb1] at c1
  clear hb1
  have c2 := H.out (i + 2) (by omega)
  have i2 : (i : Int) + 2 < (bs.length : Int) := by omega
  have hx2 : b2 < 256 := by rw [← hb2]; exact bt_lt bs _
  rw [hb2] at c2
  clear hb2
  have u1 : decide ((b1 : Int) < 128) = false := decide_eq_false (by omega)
  have v1 : decide ((191 : Int) < (b1 : Int)) = false := decide_eq_false (by omega)
  have u2 : decide ((b2 : Int) < 128) = false := decide_eq_false (by omega)
  have v2 : decide ((191 : Int) < (b2 : Int)) = false := decide_eq_false (by omega)
  go_enter Tryd.func48, Tryd.ntmps48
  go_big_wp2_with fail
  refine wp_loop_rounds 2 ?_
  rw [rounds_succ]
  go_big_wp2_with fail
  rw [rounds_succ]
  go_big_wp2_with fail
  go_ret
  exact ⟨rfl, rfl⟩
set_option maxHeartbeats 2000000 in
set_option maxRecDepth 20000 in
theorem wd_D3_short (b o cap : Nat) (bs : List UInt8) (i c0 : Nat) (w : World) (hi : i < bs.length) (hn : bs.length ≤ 2000000) (h : Row w b o cap bs) (hc0 : bt bs i = c0) (hk : 239 ≤ c0 ∧ c0 ≤ 239) (hs : bs.length - i < 3) :
    Calls Tryd.prog 48 #[.slice (some ⟨b, o, none⟩) bs.length cap, .int .i64 i] w fun e w' => e = .returned (.int .i64 1) ∧ w = w' := by
  have H := Lib.hid h
  have ci := h i hi
  have hi' : (i : Int) < (bs.length : Int) := by omega
  clear h
  have hc : c0 < 256 := by rw [← hc0]; exact bt_lt bs i
  rw [hc0] at ci
  clear hc0
  have t0 : decide ((c0 : Int) < 128) = false := decide_eq_false (by omega)
  have t1 : decide ((194 : Int) ≤ (c0 : Int)) = true := decide_eq_true (by omega)
  have t2 : decide ((c0 : Int) ≤ 223) = false := decide_eq_false (by omega)
  have t3 : ((c0 : Int) == 224) = false := by simp; omega
  have t4 : decide ((225 : Int) ≤ (c0 : Int)) = true := decide_eq_true (by omega)
  have t5 : decide ((c0 : Int) ≤ 236) = false := decide_eq_false (by omega)
  have t6 : ((c0 : Int) == 237) = false := by simp; omega
  have t7 : ((c0 : Int) == 238) = false := by simp; omega
  have t8 : ((c0 : Int) == 239) = true := by simp; omega
  have s0 : decide ((bs.length : Int) - (i : Int) < 3) = true := decide_eq_true (by omega)
  go_enter Tryd.func48, Tryd.ntmps48
  go_big_wp2_with fail
  go_ret
  exact ⟨rfl, rfl⟩
set_option maxHeartbeats 2000000 in
set_option maxRecDepth 20000 in
theorem wd_D3_l1 (b o cap : Nat) (bs : List UInt8) (i c0 : Nat) (w : World) (hi : i < bs.length) (hn : bs.length ≤ 2000000) (h : Row w b o cap bs) (hc0 : bt bs i = c0) (b1 b2 : Nat) (hb1 : bt bs (i + 1) = b1) (hb2 : bt bs (i + 2) = b2) (hk : 239 ≤ c0 ∧ c0 ≤ 239) (hs : 3 ≤ bs.length - i)  (h1 : b1 < 128) :
    Calls Tryd.prog 48 #[.slice (some ⟨b, o, none⟩) bs.length cap, .int .i64 i] w fun e w' => e = .returned (.int .i64 1) ∧ w = w' := by
  have H := Lib.hid h
  have ci := h i hi
  have hi' : (i : Int) < (bs.length : Int) := by omega
  clear h
  have hc : c0 < 256 := by rw [← hc0]; exact bt_lt bs i
  rw [hc0] at ci
  clear hc0
  have t0 : decide ((c0 : Int) < 128) = false := decide_eq_false (by omega)
  have t1 : decide ((194 : Int) ≤ (c0 : Int)) = true := decide_eq_true (by omega)
  have t2 : decide ((c0 : Int) ≤ 223) = false := decide_eq_false (by omega)
  have t3 : ((c0 : Int) == 224) = false := by simp; omega
  have t4 : decide ((225 : Int) ≤ (c0 : Int)) = true := decide_eq_true (by omega)
  have t5 : decide ((c0 : Int) ≤ 236) = false := decide_eq_false (by omega)
  have t6 : ((c0 : Int) == 237) = false := by simp; omega
  have t7 : ((c0 : Int) == 238) = false := by simp; omega
  have t8 : ((c0 : Int) == 239) = true := by simp; omega
  have s0 : decide ((bs.length : Int) - (i : Int) < 3) = false := decide_eq_false (by omega)
  have c1 := H.out (i + 1) (by omega)
  have i1 : (i : Int) + 1 < (bs.length : Int) := by omega
  have hx1 : b1 < 256 := by rw [← hb1]; exact bt_lt bs _
  rw [hb1] at c1
  clear hb1
  have c2 := H.out (i + 2) (by omega)
  have i2 : (i : Int) + 2 < (bs.length : Int) := by omega
  have hx2 : b2 < 256 := by rw [← hb2]; exact bt_lt bs _
  rw [hb2] at c2
  clear hb2
  have u1 : decide ((b1 : Int) < 128) = true := decide_eq_true (by omega)
  go_enter Tryd.func48, Tryd.ntmps48
  go_big_wp2_with fail
  go_ret
  exact ⟨rfl, rfl⟩
set_option maxHeartbeats 2000000 in
set_option maxRecDepth 20000 in
theorem wd_D3_g1 (b o cap : Nat) (bs : List UInt8) (i c0 : Nat) (w : World) (hi : i < bs.length) (hn : bs.length ≤ 2000000) (h : Row w b o cap bs) (hc0 : bt bs i = c0) (b1 b2 : Nat) (hb1 : bt bs (i + 1) = b1) (hb2 : bt bs (i + 2) = b2) (hk : 239 ≤ c0 ∧ c0 ≤ 239) (hs : 3 ≤ bs.length - i)  (h1 : 191 < b1) :
    Calls Tryd.prog 48 #[.slice (some ⟨b, o, none⟩) bs.length cap, .int .i64 i] w fun e w' => e = .returned (.int .i64 1) ∧ w = w' := by
  have H := Lib.hid h
  have ci := h i hi
  have hi' : (i : Int) < (bs.length : Int) := by omega
  clear h
  have hc : c0 < 256 := by rw [← hc0]; exact bt_lt bs i
  rw [hc0] at ci
  clear hc0
  have t0 : decide ((c0 : Int) < 128) = false := decide_eq_false (by omega)
  have t1 : decide ((194 : Int) ≤ (c0 : Int)) = true := decide_eq_true (by omega)
  have t2 : decide ((c0 : Int) ≤ 223) = false := decide_eq_false (by omega)
  have t3 : ((c0 : Int) == 224) = false := by simp; omega
  have t4 : decide ((225 : Int) ≤ (c0 : Int)) = true := decide_eq_true (by omega)
  have t5 : decide ((c0 : Int) ≤ 236) = false := decide_eq_false (by omega)
  have t6 : ((c0 : Int) == 237) = false := by simp; omega
  have t7 : ((c0 : Int) == 238) = false := by simp; omega
  have t8 : ((c0 : Int) == 239) = true := by simp; omega
  have s0 : decide ((bs.length : Int) - (i : Int) < 3) = false := decide_eq_false (by omega)
  have c1 := H.out (i + 1) (by omega)
  have i1 : (i : Int) + 1 < (bs.length : Int) := by omega
  have hx1 : b1 < 256 := by rw [← hb1]; exact bt_lt bs _
  rw [hb1] at c1
  clear hb1
  have c2 := H.out (i + 2) (by omega)
  have i2 : (i : Int) + 2 < (bs.length : Int) := by omega
  have hx2 : b2 < 256 := by rw [← hb2]; exact bt_lt bs _
  rw [hb2] at c2
  clear hb2
  have u1 : decide ((b1 : Int) < 128) = false := decide_eq_false (by omega)
  have v1 : decide ((191 : Int) < (b1 : Int)) = true := decide_eq_true (by omega)
  go_enter Tryd.func48, Tryd.ntmps48
  go_big_wp2_with fail
  go_ret
  exact ⟨rfl, rfl⟩
set_option maxHeartbeats 2000000 in
set_option maxRecDepth 20000 in
theorem wd_D3_l2 (b o cap : Nat) (bs : List UInt8) (i c0 : Nat) (w : World) (hi : i < bs.length) (hn : bs.length ≤ 2000000) (h : Row w b o cap bs) (hc0 : bt bs i = c0) (b1 b2 : Nat) (hb1 : bt bs (i + 1) = b1) (hb2 : bt bs (i + 2) = b2) (hk : 239 ≤ c0 ∧ c0 ≤ 239) (hs : 3 ≤ bs.length - i) (h1 : 128 ≤ b1 ∧ b1 ≤ 191) (h2 : b2 < 128) :
    Calls Tryd.prog 48 #[.slice (some ⟨b, o, none⟩) bs.length cap, .int .i64 i] w fun e w' => e = .returned (.int .i64 1) ∧ w = w' := by
  have H := Lib.hid h
  have ci := h i hi
  have hi' : (i : Int) < (bs.length : Int) := by omega
  clear h
  have hc : c0 < 256 := by rw [← hc0]; exact bt_lt bs i
  rw [hc0] at ci
  clear hc0
  have t0 : decide ((c0 : Int) < 128) = false := decide_eq_false (by omega)
  have t1 : decide ((194 : Int) ≤ (c0 : Int)) = true := decide_eq_true (by omega)
  have t2 : decide ((c0 : Int) ≤ 223) = false := decide_eq_false (by omega)
  have t3 : ((c0 : Int) == 224) = false := by simp; omega
  have t4 : decide ((225 : Int) ≤ (c0 : Int)) = true := decide_eq_true (by omega)
  have t5 : decide ((c0 : Int) ≤ 236) = false := decide_eq_false (by omega)
  have t6 : ((c0 : Int) == 237) = false := by simp; omega
  have t7 : ((c0 : Int) == 238) = false := by simp; omega
  have t8 : ((c0 : Int) == 239) = true := by simp; omega
  have s0 : decide ((bs.length : Int) - (i : Int) < 3) = false := decide_eq_false (by omega)
  have c1 := H.out (i + 1) (by omega)
  have i1 : (i : Int) + 1 < (bs.length : Int) := by omega
  have hx1 : b1 < 256 := by rw [← hb1]; exact bt_lt bs _
  rw [hb1] at c1
  clear hb1
  have c2 := H.out (i + 2) (by omega)
  have i2 : (i : Int) + 2 < (bs.length : Int) := by omega
  have hx2 : b2 < 256 := by rw [← hb2]; exact bt_lt bs _
  rw [hb2] at c2
  clear hb2
  have u1 : decide ((b1 : Int) < 128) = false := decide_eq_false (by omega)
  have v1 : decide ((191 : Int) < (b1 : Int)) = false := decide_eq_false (by omega)
  have u2 : decide ((b2 : Int) < 128) = true := decide_eq_true (by omega)
  go_enter Tryd.func48, Tryd.ntmps48
  go_big_wp2_with fail
  refine wp_loop_rounds 1 ?_
  rw [rounds_succ]
  go_big_wp2_with fail
  go_ret
  exact ⟨rfl, rfl⟩
set_option maxHeartbeats 2000000 in
set_option maxRecDepth 20000 in
theorem wd_D3_g2 (b o cap : Nat) (bs : List UInt8) (i c0 : Nat) (w : World) (hi : i < bs.length) (hn : bs.length ≤ 2000000) (h : Row w b o cap bs) (hc0 : bt bs i = c0) (b1 b2 : Nat) (hb1 : bt bs (i + 1) = b1) (hb2 : bt bs (i + 2) = b2) (hk : 239 ≤ c0 ∧ c0 ≤ 239) (hs : 3 ≤ bs.length - i) (h1 : 128 ≤ b1 ∧ b1 ≤ 191) (h2 : 191 < b2) :
    Calls Tryd.prog 48 #[.slice (some ⟨b, o, none⟩) bs.length cap, .int .i64 i] w fun e w' => e = .returned (.int .i64 1) ∧ w = w' := by
  have H := Lib.hid h
  have ci := h i hi
  have hi' : (i : Int) < (bs.length : Int) := by omega
  clear h
  have hc : c0 < 256 := by rw [← hc0]; exact bt_lt bs i
  rw [hc0] at ci
  clear hc0
  have t0 : decide ((c0 : Int) < 128) = false := decide_eq_false (by omega)
  have t1 : decide ((194 : Int) ≤ (c0 : Int)) = true := decide_eq_true (by omega)
  have t2 : decide ((c0 : Int) ≤ 223) = false := decide_eq_false (by omega)
  have t3 : ((c0 : Int) == 224) = false := by simp; omega
  have t4 : decide ((225 : Int) ≤ (c0 : Int)) = true := decide_eq_true (by omega)
  have t5 : decide ((c0 : Int) ≤ 236) = false := decide_eq_false (by omega)
  have t6 : ((c0 : Int) == 237) = false := by simp; omega
  have t7 : ((c0 : Int) == 238) = false := by simp; omega
  have t8 : ((c0 : Int) == 239) = true := by simp; omega
  have s0 : decide ((bs.length : Int) - (i : Int) < 3) = false := decide_eq_false (by omega)
  have c1 := H.out (i + 1) (by omega)
  have i1 : (i : Int) + 1 < (bs.length : Int) := by omega
  have hx1 : b1 < 256 := by rw [← hb1]; exact bt_lt bs _
  rw [hb1] at c1
  clear hb1
  have c2 := H.out (i + 2) (by omega)
  have i2 : (i : Int) + 2 < (bs.length : Int) := by omega
  have hx2 : b2 < 256 := by rw [← hb2]; exact bt_lt bs _
  rw [hb2] at c2
  clear hb2
  have u1 : decide ((b1 : Int) < 128) = false := decide_eq_false (by omega)
  have v1 : decide ((191 : Int) < (b1 : Int)) = false := decide_eq_false (by omega)
  have u2 : decide ((b2 : Int) < 128) = false := decide_eq_false (by omega)
  have v2 : decide ((191 : Int) < (b2 : Int)) = true := decide_eq_true (by omega)
  go_enter Tryd.func48, Tryd.ntmps48
  go_big_wp2_with fail
  refine wp_loop_rounds 1 ?_
  rw [rounds_succ]
  go_big_wp2_with fail
  go_ret
  exact ⟨rfl, rfl⟩
set_option maxHeartbeats 2000000 in
set_option maxRecDepth 20000 in
theorem wd_D3_ok (b o cap : Nat) (bs : List UInt8) (i c0 : Nat) (w : World) (hi : i < bs.length) (hn : bs.length ≤ 2000000) (h : Row w b o cap bs) (hc0 : bt bs i = c0) (b1 b2 : Nat) (hb1 : bt bs (i + 1) = b1) (hb2 : bt bs (i + 2) = b2) (hk : 239 ≤ c0 ∧ c0 ≤ 239) (hs : 3 ≤ bs.length - i) (h1 : 128 ≤ b1 ∧ b1 ≤ 191) (h2 : 128 ≤ b2 ∧ b2 ≤ 191) :
    Calls Tryd.prog 48 #[.slice (some ⟨b, o, none⟩) bs.length cap, .int .i64 i] w fun e w' => e = .returned (.int .i64 3) ∧ w = w' := by
  have H := Lib.hid h
  have ci := h i hi
  have hi' : (i : Int) < (bs.length : Int) := by omega
  clear h
  have hc : c0 < 256 := by rw [← hc0]; exact bt_lt bs i
  rw [hc0] at ci
  clear hc0
  have t0 : decide ((c0 : Int) < 128) = false := decide_eq_false (by omega)
  have t1 : decide ((194 : Int) ≤ (c0 : Int)) = true := decide_eq_true (by omega)
  have t2 : decide ((c0 : Int) ≤ 223) = false := decide_eq_false (by omega)
  have t3 : ((c0 : Int) == 224) = false := by simp; omega
  have t4 : decide ((225 : Int) ≤ (c0 : Int)) = true := decide_eq_true (by omega)
  have t5 : decide ((c0 : Int) ≤ 236) = false := decide_eq_false (by omega)
  have t6 : ((c0 : Int) == 237) = false := by simp; omega
  have t7 : ((c0 : Int) == 238) = false := by simp; omega
  have t8 : ((c0 : Int) == 239) = true := by simp; omega
  have s0 : decide ((bs.length : Int) - (i : Int) < 3) = false := decide_eq_false (by omega)
  have c1 := H.out (i + 1) (by omega)
  have i1 : (i : Int) + 1 < (bs.length : Int) := by omega
  have hx1 : b1 < 256 := by rw [← hb1]; exact bt_lt bs _
  rw [hb1] at c1
  clear hb1
  have c2 := H.out (i + 2) (by omega)
  have i2 : (i : Int) + 2 < (bs.length : Int) := by omega
  have hx2 : b2 < 256 := by rw [← hb2]; exact bt_lt bs _
  rw [hb2] at c2
  clear hb2
  have u1 : decide ((b1 : Int) < 128) = false := decide_eq_false (by omega)
  have v1 : decide ((191 : Int) < (b1 : Int)) = false := decide_eq_false (by omega)
  have u2 : decide ((b2 : Int) < 128) = false := decide_eq_false (by omega)
  have v2 : decide ((191 : Int) < (b2 : Int)) = false := decide_eq_false (by omega)
  go_enter Tryd.func48, Tryd.ntmps48
  go_big_wp2_with fail
  refine wp_loop_rounds 2 ?_
  rw [rounds_succ]
  go_big_wp2_with fail
  rw [rounds_succ]
  go_big_wp2_with fail
  go_ret
  exact ⟨rfl, rfl⟩
set_option maxHeartbeats 2000000 in
set_option maxRecDepth 20000 in
theorem wd_E_short (b o cap : Nat) (bs : List UInt8) (i c0 : Nat) (w : World) (hi : i < bs.length) (hn : bs.length ≤ 2000000) (h : Row w b o cap bs) (hc0 : bt bs i = c0) (hk : 240 ≤ c0 ∧ c0 ≤ 240) (hs : bs.length - i < 4) :
    Calls Tryd.prog 48 #[.slice (some ⟨b, o, none⟩) bs.length cap, .int .i64 i] w fun e w' => e = .returned (.int .i64 1) ∧ w = w' := by
  have H := Lib.hid h
  have ci := h i hi
  have hi' : (i : Int) < (bs.length : Int) := by omega
  clear h
  have hc : c0 < 256 := by rw [← hc0]; exact bt_lt bs i
  rw [hc0] at ci
  clear hc0
  have t0 : decide ((c0 : Int) < 128) = false := decide_eq_false (by omega)
  have t1 : decide ((194 : Int) ≤ (c0 : Int)) = true := decide_eq_true (by omega)
  have t2 : decide ((c0 : Int) ≤ 223) = false := decide_eq_false (by omega)
  have t3 : ((c0 : Int) == 224) = false := by simp; omega
  have t4 : decide ((225 : Int) ≤ (c0 : Int)) = true := decide_eq_true (by omega)
  have t5 : decide ((c0 : Int) ≤ 236) = false := decide_eq_false (by omega)
  have t6 : ((c0 : Int) == 237) = false := by simp; omega
  have t7 : ((c0 : Int) == 238) = false := by simp; omega
  have t8 : ((c0 : Int) == 239) = false := by simp; omega
  have t9 : ((c0 : Int) == 240) = true := by simp; omega
  have s0 : decide ((bs.length : Int) - (i : Int) < 4) = true := decide_eq_true (by omega)
  go_enter Tryd.func48, Tryd.ntmps48
  go_big_wp2_with fail
  go_ret
  exact ⟨rfl, rfl⟩
set_option maxHeartbeats 2000000 in
set_option maxRecDepth 20000 in
theorem wd_E_l1 (b o cap : Nat) (bs : List UInt8) (i c0 : Nat) (w : World) (hi : i < bs.length) (hn : bs.length ≤ 2000000) (h : Row w b o cap bs) (hc0 : bt bs i = c0) (b1 b2 b3 : Nat) (hb1 : bt bs (i + 1) = b1) (hb2 : bt bs (i + 2) = b2) (hb3 : bt bs (i + 3) = b3) (hk : 240 ≤ c0 ∧ c0 ≤ 240) (hs : 4 ≤ bs.length - i)  (h1 : b1 < 144) :
    Calls Tryd.prog 48 #[.slice (some ⟨b, o, none⟩) bs.length cap, .int .i64 i] w fun e w' => e = .returned (.int .i64 1) ∧ w = w' := by
  have H := Lib.hid h
  have ci := h i hi
  have hi' : (i : Int) < (bs.length : Int) := by omega
  clear h
  have hc : c0 < 256 := by rw [← hc0]; exact bt_lt bs i
  rw [hc0] at ci
  clear hc0
  have t0 : decide ((c0 : Int) < 128) = false := decide_eq_false (by omega)
  have t1 : decide ((194 : Int) ≤ (c0 : Int)) = true := decide_eq_true (by omega)
  have t2 : decide ((c0 : Int) ≤ 223) = false := decide_eq_false (by omega)
  have t3 : ((c0 : Int) == 224) = false := by simp; omega
  have t4 : decide ((225 : Int) ≤ (c0 : Int)) = true := decide_eq_true (by omega)
  have t5 : decide ((c0 : Int) ≤ 236) = false := decide_eq_false (by omega)
  have t6 : ((c0 : Int) == 237) = false := by simp; omega
  have t7 : ((c0 : Int) == 238) = false := by simp; omega
  have t8 : ((c0 : Int) == 239) = false := by simp; omega
  have t9 : ((c0 : Int) == 240) = true := by simp; omega
  have s0 : decide ((bs.length : Int) - (i : Int) < 4) = false := decide_eq_false (by omega)
  have c1 := H.out (i + 1) (by omega)
  have i1 : (i : Int) + 1 < (bs.length : Int) := by omega
  have hx1 : b1 < 256 := by rw [← hb1]; exact bt_lt bs _
  rw [hb1] at c1
  clear hb1
  have c2 := H.out (i + 2) (by omega)
  have i2 : (i : Int) + 2 < (bs.length : Int) := by omega
  have hx2 : b2 < 256 := by rw [← hb2]; exact bt_lt bs _
  rw [hb2] at c2
  clear hb2
  have c3 := H.out (i + 3) (by omega)
  have i3 : (i : Int) + 3 < (bs.length : Int) := by omega
  have hx3 : b3 < 256 := by rw [← hb3]; exact bt_lt bs _
  rw [hb3] at c3
  clear hb3
  have u1 : decide ((b1 : Int) < 144) = true := decide_eq_true (by omega)
  go_enter Tryd.func48, Tryd.ntmps48
  go_big_wp2_with fail
  go_ret
  exact ⟨rfl, rfl⟩
set_option maxHeartbeats 2000000 in
set_option maxRecDepth 20000 in
theorem wd_E_g1 (b o cap : Nat) (bs : List UInt8) (i c0 : Nat) (w : World) (hi : i < bs.length) (hn : bs.length ≤ 2000000) (h : Row w b o cap bs) (hc0 : bt bs i = c0) (b1 b2 b3 : Nat) (hb1 : bt bs (i + 1) = b1) (hb2 : bt bs (i + 2) = b2) (hb3 : bt bs (i + 3) = b3) (hk : 240 ≤ c0 ∧ c0 ≤ 240) (hs : 4 ≤ bs.length - i)  (h1 : 191 < b1) :
    Calls Tryd.prog 48 #[.slice (some ⟨b, o, none⟩) bs.length cap, .int .i64 i] w fun e w' => e = .returned (.int .i64 1) ∧ w = w' := by
  have H := Lib.hid h
  have ci := h i hi
  have hi' : (i : Int) < (bs.length : Int) := by omega
  clear h
  have hc : c0 < 256 := by rw [← hc0]; exact bt_lt bs i
  rw [hc0] at ci
  clear hc0
  have t0 : decide ((c0 : Int) < 128) = false := decide_eq_false (by omega)
  have t1 : decide ((194 : Int) ≤ (c0 : Int)) = true := decide_eq_true (by omega)
  have t2 : decide ((c0 : Int) ≤ 223) = false := decide_eq_false (by omega)
  have t3 : ((c0 : Int) == 224) = false := by simp; omega
  have t4 : decide ((225 : Int) ≤ (c0 : Int)) = true := decide_eq_true (by omega)
  have t5 : decide ((c0 : Int) ≤ 236) = false := decide_eq_false (by omega)
  have t6 : ((c0 : Int) == 237) = false := by simp; omega
  have t7 : ((c0 : Int) == 238) = false := by simp; omega
  have t8 : ((c0 : Int) == 239) = false := by simp; omega
  have t9 : ((c0 : Int) == 240) = true := by simp; omega
  have s0 : decide ((bs.length : Int) - (i : Int) < 4) = false := decide_eq_false (by omega)
  have c1 := H.out (i + 1) (by omega)
  have i1 : (i : Int) + 1 < (bs.length : Int) := by omega
  have hx1 : b1 < 256 := by rw [← hb1]; exact bt_lt bs _
  rw [hb1] at c1
  clear hb1
  have c2 := H.out (i + 2) (by omega)
  have i2 : (i : Int) + 2 < (bs.length : Int) := by omega
  have hx2 : b2 < 256 := by rw [← hb2]; exact bt_lt bs _
  rw [hb2] at c2
  clear hb2
  have c3 := H.out (i + 3) (by omega)
  have i3 : (i : Int) + 3 < (bs.length : Int) := by omega
  have hx3 : b3 < 256 := by rw [← hb3]; exact bt_lt bs _
  rw [hb3] at c3
  clear hb3
  have u1 : decide ((b1 : Int) < 144) = false := decide_eq_false (by omega)
  have v1 : decide ((191 : Int) < (b1 : Int)) = true := decide_eq_true (by omega)
  go_enter Tryd.func48, Tryd.ntmps48
  go_big_wp2_with fail
  go_ret
  exact ⟨rfl, rfl⟩
set_option maxHeartbeats 2000000 in
set_option maxRecDepth 20000 in
theorem wd_E_l2 (b o cap : Nat) (bs : List UInt8) (i c0 : Nat) (w : World) (hi : i < bs.length) (hn : bs.length ≤ 2000000) (h : Row w b o cap bs) (hc0 : bt bs i = c0) (b1 b2 b3 : Nat) (hb1 : bt bs (i + 1) = b1) (hb2 : bt bs (i + 2) = b2) (hb3 : bt bs (i + 3) = b3) (hk : 240 ≤ c0 ∧ c0 ≤ 240) (hs : 4 ≤ bs.length - i) (h1 : 144 ≤ b1 ∧ b1 ≤ 191) (h2 : b2 < 128) :
    Calls Tryd.prog 48 #[.slice (some ⟨b, o, none⟩) bs.length cap, .int .i64 i] w fun e w' => e = .returned (.int .i64 1) ∧ w = w' := by
  have H := Lib.hid h
  have ci := h i hi
  have hi' : (i : Int) < (bs.length : Int) := by omega
  clear h
  have hc : c0 < 256 := by rw [← hc0]; exact bt_lt bs i
  rw [hc0] at ci
  clear hc0
  have t0 : decide ((c0 : Int) < 128) = false := decide_eq_false (by omega)
  have t1 : decide ((194 : Int) ≤ (c0 : Int)) = true := decide_eq_true (by omega)
  have t2 : decide ((c0 : Int) ≤ 223) = false := decide_eq_false (by omega)
  have t3 : ((c0 : Int) == 224) = false := by simp; omega
  have t4 : decide ((225 : Int) ≤ (c0 : Int)) = true := decide_eq_true (by omega)
  have t5 : decide ((c0 : Int) ≤ 236) = false := decide_eq_false (by omega)
  have t6 : ((c0 : Int) == 237) = false := by simp; omega
  have t7 : ((c0 : Int) == 238) = false := by simp; omega
  have t8 : ((c0 : Int) == 239) = false := by simp; omega
  have t9 : ((c0 : Int) == 240) = true := by simp; omega
  have s0 : decide ((bs.length : Int) - (i : Int) < 4) = false := decide_eq_false (by omega)
  have c1 := H.out (i + 1) (by omega)
  have i1 : (i : Int) + 1 < (bs.length : Int) := by omega
  have hx1 : b1 < 256 := by rw [← hb1]; exact bt_lt bs _
  rw [hb1] at c1
  clear hb1
  have c2 := H.out (i + 2) (by omega)
  have i2 : (i : Int) + 2 < (bs.length : Int) := by omega
  have hx2 : b2 < 256 := by rw [← hb2]; exact bt_lt bs _
  rw [hb2] at c2
  clear hb2
  have c3 := H.out (i + 3) (by omega)
  have i3 : (i : Int) + 3 < (bs.length : Int) := by omega
  have hx3 : b3 < 256 := by rw [← hb3]; exact bt_lt bs _
  rw [hb3] at c3
  clear hb3
  have u1 : decide ((b1 : Int) < 144) = false := decide_eq_false (by omega)
  have v1 : decide ((191 : Int) < (b1 : Int)) = false := decide_eq_false (by omega)
  have u2 : decide ((b2 : Int) < 128) = true := decide_eq_true (by omega)
  go_enter Tryd.func48, Tryd.ntmps48
  go_big_wp2_with fail
  refine wp_loop_rounds 1 ?_
  rw [rounds_succ]
  go_big_wp2_with fail
  go_ret
  exact ⟨rfl, rfl⟩
set_option maxHeartbeats 2000000 in
set_option maxRecDepth 20000 in
theorem wd_E_g2 (b o cap : Nat) (bs : List UInt8) (i c0 : Nat) (w : World) (hi : i < bs.length) (hn : bs.length ≤ 2000000) (h : Row w b o cap bs) (hc0 : bt bs i = c0) (b1 b2 b3 : Nat) (hb1 : bt bs (i + 1) = b1) (hb2 : bt bs (i + 2) = b2) (hb3 : bt bs (i + 3) = b3) (hk : 240 ≤ c0 ∧ c0 ≤ 240) (hs : 4 ≤ bs.length - i) (h1 : 144 ≤ b1 ∧ b1 ≤ 191) (h2 : 191 < b2) :
    Calls Tryd.prog 48 #[.slice (some ⟨b, o, none⟩) bs.length cap, .int .i64 i] w fun e w' => e = .returned (.int .i64 1) ∧ w = w' := by
  have H := Lib.hid h
  have ci := h i hi
  have hi' : (i : Int) < (bs.length : Int) := by omega
  clear h
  have hc : c0 < 256 := by rw [← hc0]; exact bt_lt bs i
  rw [hc0] at ci
  clear hc0
  have t0 : decide ((c0 : Int) < 128) = false := decide_eq_false (by omega)
  have t1 : decide ((194 : Int) ≤ (c0 : Int)) = true := decide_eq_true (by omega)
  have t2 : decide ((c0 : Int) ≤ 223) = false := decide_eq_false (by omega)
  have t3 : ((c0 : Int) == 224) = false := by simp; omega
  have t4 : decide ((225 : Int) ≤ (c0 : Int)) = true := decide_eq_true (by omega)
  have t5 : decide ((c0 : Int) ≤ 236) = false := decide_eq_false (by omega)
  have t6 : ((c0 : Int) == 237) = false := by simp; omega
  have t7 : ((c0 : Int) == 238) = false := by simp; omega
  have t8 : ((c0 : Int) == 239) = false := by simp; omega
  have t9 : ((c0 : Int) == 240) = true := by simp; omega
  have s0 : decide ((bs.length : Int) - (i : Int) < 4) = false := decide_eq_false (by omega)
  have c1 := H.out (i + 1) (by omega)
  have i1 : (i : Int) + 1 < (bs.length : Int) := by omega
  have hx1 : b1 < 256 := by rw [← hb1]; exact bt_lt bs _
  rw [hb1] at c1
  clear hb1
  have c2 := H.out (i + 2) (by omega)
  have i2 : (i : Int) + 2 < (bs.length : Int) := by omega
  have hx2 : b2 < 256 := by rw [← hb2]; exact bt_lt bs _
  rw [hb2] at c2
  clear hb2
  have c3 := H.out (i + 3) (by omega)
  have i3 : (i : Int) + 3 < (bs.length : Int) := by omega
  have hx3 : b3 < 256 := by rw [← hb3]; exact bt_lt bs _
  rw [hb3] at c3
  clear hb3
  have u1 : decide ((b1 : Int) < 144) = false := decide_eq_false (by omega)
  have v1 : decide ((191 : Int) < (b1 : Int)) = false := decide_eq_false (by omega)
  have u2 : decide ((b2 : Int) < 128) = false := decide_eq_false (by omega)
  have v2 : decide ((191 : Int) < (b2 : Int)) = true := decide_eq_true (by omega)
  go_enter Tryd.func48, Tryd.ntmps48
  go_big_wp2_with fail
  refine wp_loop_rounds 1 ?_
  rw [rounds_succ]
  go_big_wp2_with fail
  go_ret
  exact ⟨rfl, rfl⟩
set_option maxHeartbeats 2000000 in
set_option maxRecDepth 20000 in
theorem wd_E_l3 (b o cap : Nat) (bs : List UInt8) (i c0 : Nat) (w : World) (hi : i < bs.length) (hn : bs.length ≤ 2000000) (h : Row w b o cap bs) (hc0 : bt bs i = c0) (b1 b2 b3 : Nat) (hb1 : bt bs (i + 1) = b1) (hb2 : bt bs (i + 2) = b2) (hb3 : bt bs (i + 3) = b3) (hk : 240 ≤ c0 ∧ c0 ≤ 240) (hs : 4 ≤ bs.length - i) (h1 : 144 ≤ b1 ∧ b1 ≤ 191) (h2 : 128 ≤ b2 ∧ b2 ≤ 191) (h3 : b3 < 128) :
    Calls Tryd.prog 48 #[.slice (some ⟨b, o, none⟩) bs.length cap, .int .i64 i] w fun e w' => e = .returned (.int .i64 1) ∧ w = w' := by
  have H := Lib.hid h
  have ci := h i hi
  have hi' : (i : Int) < (bs.length : Int) := by omega
  clear h
  have hc : c0 < 256 := by rw [← hc0]; exact bt_lt bs i
  rw [hc0] at ci
  clear hc0
  have t0 : decide ((c0 : Int) < 128) = false := decide_eq_false (by omega)
  have t1 : decide ((194 : Int) ≤ (c0 : Int)) = true := decide_eq_true (by omega)
  have t2 : decide ((c0 : Int) ≤ 223) = false := decide_eq_false (by omega)
  have t3 : ((c0 : Int) == 224) = false := by simp; omega
  have t4 : decide ((225 : Int) ≤ (c0 : Int)) = true := decide_eq_true (by omega)
  have t5 : decide ((c0 : Int) ≤ 236) = false := decide_eq_false (by omega)
  have t6 : ((c0 : Int) == 237) = false := by simp; omega
  have t7 : ((c0 : Int) == 238) = false := by simp; omega
  have t8 : ((c0 : Int) == 239) = false := by simp; omega
  have t9 : ((c0 : Int) == 240) = true := by simp; omega
  have s0 : decide ((bs.length : Int) - (i : Int) < 4) = false := decide_eq_false (by omega)
  have c1 := H.out (i + 1) (by omega)
  have i1 : (i : Int) + 1 < (bs.length : Int) := by omega
  have hx1 : b1 < 256 := by rw [← hb1]; exact bt_lt bs _
  rw [hb1] at c1
  clear hb1
  have c2 := H.out (i + 2) (by omega)
  have i2 : (i : Int) + 2 < (bs.length : Int) := by omega
  have hx2 : b2 < 256 := by rw [← hb2]; exact bt_lt bs _
  rw [hb2] at c2
  clear hb2
  have c3 := H.out (i + 3) (by omega)
  have i3 : (i : Int) + 3 < (bs.length : Int) := by omega
  have hx3 : b3 < 256 := by rw [← hb3]; exact bt_lt bs _
  rw [hb3] at c3
  clear hb3
  have u1 : decide ((b1 : Int) < 144) = false := decide_eq_false (by omega)
  have v1 : decide ((191 : Int) < (b1 : Int)) = false := decide_eq_false (by omega)
  have u2 : decide ((b2 : Int) < 128) = false := decide_eq_false (by omega)
  have v2 : decide ((191 : Int) < (b2 : Int)) = false := decide_eq_false (by omega)
  have u3 : decide ((b3 : Int) < 128) = true := decide_eq_true (by omega)
  go_enter Tryd.func48, Tryd.ntmps48
  go_big_wp2_with fail
  refine wp_loop_rounds 2 ?_
  rw [rounds_succ]
  go_big_wp2_with fail
  rw [rounds_succ]
  go_big_wp2_with fail
  go_ret
  exact ⟨rfl, rfl⟩
set_option maxHeartbeats 2000000 in
set_option maxRecDepth 20000 in
theorem wd_E_g3 (b o cap : Nat) (bs : List UInt8) (i c0 : Nat) (w : World) (hi : i < bs.length) (hn : bs.length ≤ 2000000) (h : Row w b o cap bs) (hc0 : bt bs i = c0) (b1 b2 b3 : Nat) (hb1 : bt bs (i + 1) = b1) (hb2 : bt bs (i + 2) = b2) (hb3 : bt bs (i + 3) = b3) (hk : 240 ≤ c0 ∧ c0 ≤ 240) (hs : 4 ≤ bs.length - i) (h1 : 144 ≤ b1 ∧ b1 ≤ 191) (h2 : 128 ≤ b2 ∧ b2 ≤ 191) (h3 : 191 < b3) :
    Calls Tryd.prog 48 #[.slice (some ⟨b, o, none⟩) bs.length cap, .int .i64 i] w fun e w' => e = .returned (.int .i64 1) ∧ w = w' := by
  have H := Lib.hid h
  have ci := h i hi
  have hi' : (i : Int) < (bs.length : Int) := by omega
  clear h
  have hc : c0 < 256 := by rw [← hc0]; exact bt_lt bs i
  rw [hc0] at ci
  clear hc0
  have t0 : decide ((c0 : Int) < 128) = false := decide_eq_false (by omega)
  have t1 : decide ((194 : Int) ≤ (c0 : Int)) = true := decide_eq_true (by omega)
  have t2 : decide ((c0 : Int) ≤ 223) = false := decide_eq_false (by omega)
  have t3 : ((c0 : Int) == 224) = false := by simp; omega
  have t4 : decide ((225 : Int) ≤ (c0 : Int)) = true := decide_eq_true (by omega)
  have t5 : decide ((c0 : Int) ≤ 236) = false := decide_eq_false (by omega)
  have t6 : ((c0 : Int) == 237) = false := by simp; omega
  have t7 : ((c0 : Int) == 238) = false := by simp; omega
  have t8 : ((c0 : Int) == 239) = false := by simp; omega
  have t9 : ((c0 : Int) == 240) = true := by simp; omega
  have s0 : decide ((bs.length : Int) - (i : Int) < 4) = false := decide_eq_false (by omega)
  have c1 := H.out (i + 1) (by omega)
  have i1 : (i : Int) + 1 < (bs.length : Int) := by omega
  have hx1 : b1 < 256 := by rw [← hb1]; exact bt_lt bs _
  rw [hb1] at c1
  clear hb1
  have c2 := H.out (i + 2) (by omega)
  have i2 : (i : Int) + 2 < (bs.length : Int) := by omega
  have hx2 : b2 < 256 := by rw [← hb2]; exact bt_lt bs _
  rw [hb2] at c2
  clear hb2
  have c3 := H.out (i + 3) (by omega)
  have i3 : (i : Int) + 3 < (bs.length : Int) := by omega
  have hx3 : b3 < 256 := by rw [← hb3]; exact bt_lt bs _
  rw [hb3] at c3
  clear hb3
  have u1 : decide ((b1 : Int) < 144) = false := decide_eq_false (by omega)
  have v1 : decide ((191 : Int) < (b1 : Int)) = false := decide_eq_false (by omega)
  have u2 : decide ((b2 : Int) < 128) = false := decide_eq_false (by omega)
  have v2 : decide ((191 : Int) < (b2 : Int)) = false := decide_eq_false (by omega)
  have u3 : decide ((b3 : Int) < 128) = false := decide_eq_false (by omega)
  have v3 : decide ((191 : Int) < (b3 : Int)) = true := decide_eq_true (by omega)
  go_enter Tryd.func48, Tryd.ntmps48
  go_big_wp2_with fail
  refine wp_loop_rounds 2 ?_
  rw [rounds_succ]
  go_big_wp2_with fail
  rw [rounds_succ]
  go_big_wp2_with fail
  go_ret
  exact ⟨rfl, rfl⟩
set_option maxHeartbeats 2000000 in
set_option maxRecDepth 20000 in
theorem wd_E_ok (b o cap : Nat) (bs : List UInt8) (i c0 : Nat) (w : World) (hi : i < bs.length) (hn : bs.length ≤ 2000000) (h : Row w b o cap bs) (hc0 : bt bs i = c0) (b1 b2 b3 : Nat) (hb1 : bt bs (i + 1) = b1) (hb2 : bt bs (i + 2) = b2) (hb3 : bt bs (i + 3) = b3) (hk : 240 ≤ c0 ∧ c0 ≤ 240) (hs : 4 ≤ bs.length - i) (h1 : 144 ≤ b1 ∧ b1 ≤ 191) (h2 : 128 ≤ b2 ∧ b2 ≤ 191) (h3 : 128 ≤ b3 ∧ b3 ≤ 191) :
    Calls Tryd.prog 48 #[.slice (some ⟨b, o, none⟩) bs.length cap, .int .i64 i] w fun e w' => e = .returned (.int .i64 4) ∧ w = w' := by
  have H := Lib.hid h
  have ci := h i hi
  have hi' : (i : Int) < (bs.length : Int) := by omega
  clear h
  have hc : c0 < 256 := by rw [← hc0]; exact bt_lt bs i
  rw [hc0] at ci
  clear hc0
  have t0 : decide ((c0 : Int) < 128) = false := decide_eq_false (by omega)
  have t1 : decide ((194 : Int) ≤ (c0 : Int)) = true := decide_eq_true (by omega)
  have t2 : decide ((c0 : Int) ≤ 223) = false := decide_eq_false (by omega)
  have t3 : ((c0 : Int) == 224) = false := by simp; omega
  have t4 : decide ((225 : Int) ≤ (c0 : Int)) = true := decide_eq_true (by omega)
  have t5 : decide ((c0 : Int) ≤ 236) = false := decide_eq_false (by omega)
  have t6 : ((c0 : Int) == 237) = false := by simp; omega
  have t7 : ((c0 : Int) == 238) = false := by simp; omega
  have t8 : ((c0 : Int) == 239) = false := by simp; omega
  have t9 : ((c0 : Int) == 240) = true := by simp; omega
  have s0 : decide ((bs.length : Int) - (i : Int) < 4) = false := decide_eq_false (by omega)
  have c1 := H.out (i + 1) (by omega)
  have i1 : (i : Int) + 1 < (bs.length : Int) := by omega
  have hx1 : b1 < 256 := by rw [← hb1]; exact bt_lt bs _
  rw [hb1] at c1
  clear hb1
  have c2 := H.out (i + 2) (by omega)
  have i2 : (i : Int) + 2 < (bs.length : Int) := by omega
  have hx2 : b2 < 256 := by rw [← hb2]; exact bt_lt bs _
  rw [hb2] at c2
  clear hb2
  have c3 := H.out (i + 3) (by omega)
  have i3 : (i : Int) + 3 < (bs.length : Int) := by omega
  have hx3 : b3 < 256 := by rw [← hb3]; exact bt_lt bs _
  rw [hb3] at c3
  clear hb3
  have u1 : decide ((b1 : Int) < 144) = false := decide_eq_false (by omega)
  have v1 : decide ((191 : Int) < (b1 : Int)) = false := decide_eq_false (by omega)
  have u2 : decide ((b2 : Int) < 128) = false := decide_eq_false (by omega)
  have v2 : decide ((191 : Int) < (b2 : Int)) = false := decide_eq_false (by omega)
  have u3 : decide ((b3 : Int) < 128) = false := decide_eq_false (by omega)
  have v3 : decide ((191 : Int) < (b3 : Int)) = false := decide_eq_false (by omega)
  go_enter Tryd.func48, Tryd.ntmps48
  go_big_wp2_with fail
  refine wp_loop_rounds 3 ?_
  rw [rounds_succ]
  go_big_wp2_with fail
  rw [rounds_succ]
  go_big_wp2_with fail
  rw [rounds_succ]
  go_big_wp2_with fail
  go_ret
  exact ⟨rfl, rfl⟩
set_option maxHeartbeats 2000000 in
set_option maxRecDepth 20000 in
theorem wd_F_short (b o cap : Nat) (bs : List UInt8) (i c0 : Nat) (w : World) (hi : i < bs.length) (hn : bs.length ≤ 2000000) (h : Row w b o cap bs) (hc0 : bt bs i = c0) (hk : 241 ≤ c0 ∧ c0 ≤ 243) (hs : bs.length - i < 4) :
    Calls Tryd.prog 48 #[.slice (some ⟨b, o, none⟩) bs.length cap, .int .i64 i] w fun e w' => e = .returned (.int .i64 1) ∧ w = w' := by
  have H := Lib.hid h
  have ci := h i hi
  have hi' : (i : Int) < (bs.length : Int) := by omega
  clear h
  have hc : c0 < 256 := by rw [← hc0]; exact bt_lt bs i
  rw [hc0] at ci
  clear hc0
  have t0 : decide ((c0 : Int) < 128) = false := decide_eq_false (by omega)
  have t1 : decide ((194 : Int) ≤ (c0 : Int)) = true := decide_eq_true (by omega)
  have t2 : decide ((c0 : Int) ≤ 223) = false := decide_eq_false (by omega)
  have t3 : ((c0 : Int) == 224) = false := by simp; omega
  have t4 : decide ((225 : Int) ≤ (c0 : Int)) = true := decide_eq_true (by omega)
  have t5 : decide ((c0 : Int) ≤ 236) = false := decide_eq_false (by omega)
  have t6 : ((c0 : Int) == 237) = false := by simp; omega
  have t7 : ((c0 : Int) == 238) = false := by simp; omega
  have t8 : ((c0 : Int) == 239) = false := by simp; omega
  have t9 : ((c0 : Int) == 240) = false := by simp; omega
  have t10 : decide ((241 : Int) ≤ (c0 : Int)) = true := decide_eq_true (by omega)
  have t11 : decide ((c0 : Int) ≤ 243) = true := decide_eq_true (by omega)
  have s0 : decide ((bs.length : Int) - (i : Int) < 4) = true := decide_eq_true (by omega)
  go_enter Tryd.func48, Tryd.ntmps48
  go_big_wp2_with fail
  go_ret
  exact ⟨rfl, rfl⟩
set_option maxHeartbeats 2000000 in
set_option maxRecDepth 20000 in
theorem wd_F_l1 (b o cap : Nat) (bs : List UInt8) (i c0 : Nat) (w : World) (hi : i < bs.length) (hn : bs.length ≤ 2000000) (h : Row w b o cap bs) (hc0 : bt bs i = c0) (b1 b2 b3 : Nat) (hb1 : bt bs (i + 1) = b1) (hb2 : bt bs (i + 2) = b2) (hb3 : bt bs (i + 3) = b3) (hk : 241 ≤ c0 ∧ c0 ≤ 243) (hs : 4 ≤ bs.length - i)  (h1 : b1 < 128) :
    Calls Tryd.prog 48 #[.slice (some ⟨b, o, none⟩) bs.length cap, .int .i64 i] w fun e w' => e = .returned (.int .i64 1) ∧ w = w' := by
  have H := Lib.hid h
  have ci := h i hi
  have hi' : (i : Int) < (bs.length : Int) := by omega
  clear h
  have hc : c0 < 256 := by rw [← hc0]; exact bt_lt bs i
  rw [hc0] at ci
  clear hc0
  have t0 : decide ((c0 : Int) < 128) = false := decide_eq_false (by omega)
  have t1 : decide ((194 : Int) ≤ (c0 : Int)) = true := decide_eq_true (by omega)
  have t2 : decide ((c0 : Int) ≤ 223) = false := decide_eq_false (by omega)
  have t3 : ((c0 : Int) == 224) = false := by simp; omega
  have t4 : decide ((225 : Int) ≤ (c0 : Int)) = true := decide_eq_true (by omega)
  have t5 : decide ((c0 : Int) ≤ 236) = false := decide_eq_false (by omega)
  have t6 : ((c0 : Int) == 237) = false := by simp; omega
  have t7 : ((c0 : Int) == 238) = false := by simp; omega
  have t8 : ((c0 : Int) == 239) = false := by simp; omega
  have t9 : ((c0 : Int) == 240) = false := by simp; omega
  have t10 : decide ((241 : Int) ≤ (c0 : Int)) = true := decide_eq_true (by omega)
  have t11 : decide ((c0 : Int) ≤ 243) = true := decide_eq_true (by omega)
  have s0 : decide ((bs.length : Int) - (i : Int) < 4) = false := decide_eq_false (by omega)
  have c1 := H.out (i + 1) (by omega)
  have i1 : (i : Int) + 1 < (bs.length : Int) := by omega
  have hx1 : b1 < 256 := by rw [← hb1]; exact bt_lt bs _
  rw [hb1] at c1
  clear hb1
  have c2 := H.out (i + 2) (by omega)
  have i2 : (i : Int) + 2 < (bs.length : Int) := by omega
  have hx2 : b2 < 256 := by rw [← hb2]; exact bt_lt bs _
  rw [hb2] at c2
  clear hb2
  have c3 := H.out (i + 3) (by omega)
  have i3 : (i : Int) + 3 < (bs.length : Int) := by omega
  have hx3 : b3 < 256 := by rw [← hb3]; exact bt_lt bs _
  rw [hb3] at c3
  clear hb3
  have u1 : decide ((b1 : Int) < 128) = true := decide_eq_true (by omega)
  go_enter Tryd.func48, Tryd.ntmps48
  go_big_wp2_with fail
  go_ret
  exact ⟨rfl, rfl⟩
set_option maxHeartbeats 2000000 in
set_option maxRecDepth 20000 in
theorem wd_F_g1 (b o cap : Nat) (bs : List UInt8) (i c0 : Nat) (w : World) (hi : i < bs.length) (hn : bs.length ≤ 2000000) (h : Row w b o cap bs) (hc0 : bt bs i = c0) (b1 b2 b3 : Nat) (hb1 : bt bs (i + 1) = b1) (hb2 : bt bs (i + 2) = b2) (hb3 : bt bs (i + 3) = b3) (hk : 241 ≤ c0 ∧ c0 ≤ 243) (hs : 4 ≤ bs.length - i)  (h1 : 191 < b1) :
    Calls Tryd.prog 48 #[.slice (some ⟨b, o, none⟩) bs.length cap, .int .i64 i] w fun e w' => e = .returned (.int .i64 1) ∧ w = w' := by
  have H := Lib.hid h
  have ci := h i hi
  have hi' : (i : Int) < (bs.length : Int) := by omega
  clear h
  have hc : c0 < 256 := by rw [← hc0]; exact bt_lt bs i
  rw [hc0] at ci
  clear hc0
  have t0 : decide ((c0 : Int) < 128) = false := decide_eq_false (by omega)
  have t1 : decide ((194 : Int) ≤ (c0 : Int)) = true := decide_eq_true (by omega)
  have t2 : decide ((c0 : Int) ≤ 223) = false := decide_eq_false (by omega)
  have t3 : ((c0 : Int) == 224) = false := by simp; omega
  have t4 : decide ((225 : Int) ≤ (c0 : Int)) = true := decide_eq_true (by omega)
  have t5 : decide ((c0 : Int) ≤ 236) = false := decide_eq_false (by omega)
  have t6 : ((c0 : Int) == 237) = false := by simp; omega
  have t7 : ((c0 : Int) == 238) = false := by simp; omega
  have t8 : ((c0 : Int) == 239) = false := by simp; omega
  have t9 : ((c0 : Int) == 240) = false := by simp; omega
  have t10 : decide ((241 : Int) ≤ (c0 : Int)) = true := decide_eq_true (by omega)
  have t11 : decide ((c0 : Int) ≤ 243) = true := decide_eq_true (by omega)
  have s0 : decide ((bs.length : Int) - (i : Int) < 4) = false := decide_eq_false (by omega)
  have c1 := H.out (i + 1) (by omega)
  have i1 : (i : Int) + 1 < (bs.length : Int) := by omega
  have hx1 : b1 < 256 := by rw [← hb1]; exact bt_lt bs _
  rw [hb1] at c1
  clear hb1
  have c2 := H.out (i + 2) (by omega)
  have i2 : (i : Int) + 2 < (bs.length : Int) := by omega
  have hx2 : b2 < 256 := by rw [← hb2]; exact bt_lt bs _
  rw [hb2] at c2
  clear hb2
  have c3 := H.out (i + 3) (by omega)
  have i3 : (i : Int) + 3 < (bs.length : Int) := by omega
  have hx3 : b3 < 256 := by rw [← hb3]; exact bt_lt bs _
  rw [hb3] at c3
  clear hb3
  have u1 : decide ((b1 : Int) < 128) = false := decide_eq_false (by omega)
  have v1 : decide ((191 : Int) < (b1 : Int)) = true := decide_eq_true (by omega)
  go_enter Tryd.func48, Tryd.ntmps48
  go_big_wp2_with fail
  go_ret
  exact ⟨rfl, rfl⟩
set_option maxHeartbeats 2000000 in
set_option maxRecDepth 20000 in
theorem wd_F_l2 (b o cap : Nat) (bs : List UInt8) (i c0 : Nat) (w : World) (hi : i < bs.length) (hn : bs.length ≤ 2000000) (h : Row w b o cap bs) (hc0 : bt bs i = c0) (b1 b2 b3 : Nat) (hb1 : bt bs (i + 1) = b1) (hb2 : bt bs (i + 2) = b2) (hb3 : bt bs (i + 3) = b3) (hk : 241 ≤ c0 ∧ c0 ≤ 243) (hs : 4 ≤ bs.length - i) (h1 : 128 ≤ b1 ∧ b1 ≤ 191) (h2 : b2 < 128) :
    Calls Tryd.prog 48 #[.slice (some ⟨b, o, none⟩) bs.length cap, .int .i64 i] w fun e w' => e = .returned (.int .i64 1) ∧ w = w' := by
  have H := Lib.hid h
  have ci := h i hi
  have hi' : (i : Int) < (bs.length : Int) := by omega
  clear h
  have hc : c0 < 256 := by rw [← hc0]; exact bt_lt bs i
  rw [hc0] at ci
  clear hc0
  have t0 : decide ((c0 : Int) < 128) = false := decide_eq_false (by omega)
  have t1 : decide ((194 : Int) ≤ (c0 : Int)) = true := decide_eq_true (by omega)
  have t2 : decide ((c0 : Int) ≤ 223) = false := decide_eq_false (by omega)
  have t3 : ((c0 : Int) == 224) = false := by simp; omega
  have t4 : decide ((225 : Int) ≤ (c0 : Int)) = true := decide_eq_true (by omega)
  have t5 : decide ((c0 : Int) ≤ 236) = false := decide_eq_false (by omega)
  have t6 : ((c0 : Int) == 237) = false := by simp; omega
  have t7 : ((c0 : Int) == 238) = false := by simp; omega
  have t8 : ((c0 : Int) == 239) = false := by simp; omega
  have t9 : ((c0 : Int) == 240) = false := by simp; omega
  have t10 : decide ((241 : Int) ≤ (c0 : Int)) = true := decide_eq_true (by omega)
  have t11 : decide ((c0 : Int) ≤ 243) = true := decide_eq_true (by omega)
  have s0 : decide ((bs.length : Int) - (i : Int) < 4) = false := decide_eq_false (by omega)
  have c1 := H.out (i + 1) (by omega)
  have i1 : (i : Int) + 1 < (bs.length : Int) := by omega
  have hx1 : b1 < 256 := by rw [← hb1]; exact bt_lt bs _
  rw [hb1] at c1
  clear hb1
  have c2 := H.out (i + 2) (by omega)
  have i2 : (i : Int) + 2 < (bs.length : Int) := by omega
  have hx2 : b2 < 256 := by rw [← hb2]; exact bt_lt bs _
  rw [hb2] at c2
  clear hb2
  have c3 := H.out (i + 3) (by omega)
  have i3 : (i : Int) + 3 < (bs.length : Int) := by omega
  have hx3 : b3 < 256 := by rw [← hb3]; exact bt_lt bs _
  rw [hb3] at c3
  clear hb3
  have u1 : decide ((b1 : Int) < 128) = false := decide_eq_false (by omega)
  have v1 : decide ((191 : Int) < (b1 : Int)) = false := decide_eq_false (by omega)
  have u2 : decide ((b2 : Int) < 128) = true := decide_eq_true (by omega)
  go_enter Tryd.func48, Tryd.ntmps48
  go_big_wp2_with fail
  refine wp_loop_rounds 1 ?_
  rw [rounds_succ]
  go_big_wp2_with fail
  go_ret
  exact ⟨rfl, rfl⟩
set_option maxHeartbeats 2000000 in
set_option maxRecDepth 20000 in
theorem wd_F_g2 (b o cap : Nat) (bs : List UInt8) (i c0 : Nat) (w : World) (hi : i < bs.length) (hn : bs.length ≤ 2000000) (h : Row w b o cap bs) (hc0 : bt bs i = c0) (b1 b2 b3 : Nat) (hb1 : bt bs (i + 1) = b1) (hb2 : bt bs (i + 2) = b2) (hb3 : bt bs (i + 3) = b3) (hk : 241 ≤ c0 ∧ c0 ≤ 243) (hs : 4 ≤ bs.length - i) (h1 : 128 ≤ b1 ∧ b1 ≤ 191) (h2 : 191 < b2) :
    Calls Tryd.prog 48 #[.slice (some ⟨b, o, none⟩) bs.length cap, .int .i64 i] w fun e w' => e = .returned (.int .i64 1) ∧ w = w' := by
  have H := Lib.hid h
  have ci := h i hi
  have hi' : (i : Int) < (bs.length : Int) := by omega
  clear h
  have hc : c0 < 256 := by rw [← hc0]; exact bt_lt bs i
  rw [hc0] at ci
  clear hc0
  have t0 : decide ((c0 : Int) < 128) = false := decide_eq_false (by omega)
  have t1 : decide ((194 : Int) ≤ (c0 : Int)) = true := decide_eq_true (by omega)
  have t2 : decide ((c0 : Int) ≤ 223) = false := decide_eq_false (by omega)
  have t3 : ((c0 : Int) == 224) = false := by simp; omega
  have t4 : decide ((225 : Int) ≤ (c0 : Int)) = true := decide_eq_true (by omega)
  have t5 : decide ((c0 : Int) ≤ 236) = false := decide_eq_false (by omega)
  have t6 : ((c0 : Int) == 237) = false := by simp; omega
  have t7 : ((c0 : Int) == 238) = false := by simp; omega
  have t8 : ((c0 : Int) == 239) = false := by simp; omega
  have t9 : ((c0 : Int) == 240) = false := by simp; omega
  have t10 : decide ((241 : Int) ≤ (c0 : Int)) = true := decide_eq_true (by omega)
  have t11 : decide ((c0 : Int) ≤ 243) = true := decide_eq_true (by omega)
  have s0 : decide ((bs.length : Int) - (i : Int) < 4) = false := decide_eq_false (by omega)
  have c1 := H.out (i + 1) (by omega)
  have i1 : (i : Int) + 1 < (bs.length : Int) := by omega
  have hx1 : b1 < 256 := by rw [← hb1]; exact bt_lt bs _
  rw [hb1] at c1
  clear hb1
  have c2 := H.out (i + 2) (by omega)
  have i2 : (i : Int) + 2 < (bs.length : Int) := by omega
  have hx2 : b2 < 256 := by rw [← hb2]; exact bt_lt bs _
  rw [hb2] at c2
  clear hb2
  have c3 := H.out (i + 3) (by omega)
  have i3 : (i : Int) + 3 < (bs.length : Int) := by omega
  have hx3 : b3 < 256 := by rw [← hb3]; exact bt_lt bs _
  rw [hb3] at c3
  clear hb3
  have u1 : decide ((b1 : Int) < 128) = false := decide_eq_false (by omega)
  have v1 : decide ((191 : Int) < (b1 : Int)) = false := decide_eq_false (by omega)
  have u2 : decide ((b2 : Int) < 128) = false := decide_eq_false (by omega)
  have v2 : decide ((191 : Int) < (b2 : Int)) = true := decide_eq_true (by omega)
  go_enter Tryd.func48, Tryd.ntmps48
  go_big_wp2_with fail
  refine wp_loop_rounds 1 ?_
  rw [rounds_succ]
  go_big_wp2_with fail
  go_ret
  exact ⟨rfl, rfl⟩
set_option maxHeartbeats 2000000 in
set_option maxRecDepth 20000 in
theorem wd_F_l3 (b o cap : Nat) (bs : List UInt8) (i c0 : Nat) (w : World) (hi : i < bs.length) (hn : bs.length ≤ 2000000) (h : Row w b o cap bs) (hc0 : bt bs i = c0) (b1 b2 b3 : Nat) (hb1 : bt bs (i + 1) = b1) (hb2 : bt bs (i + 2) = b2) (hb3 : bt bs (i + 3) = b3) (hk : 241 ≤ c0 ∧ c0 ≤ 243) (hs : 4 ≤ bs.length - i) (h1 : 128 ≤ b1 ∧ b1 ≤ 191) (h2 : 128 ≤ b2 ∧ b2 ≤ 191) (h3 : b3 < 128) :
    Calls Tryd.prog 48 #[.slice (some ⟨b, o, none⟩) bs.length cap, .int .i64 i] w fun e w' => e = .returned (.int .i64 1) ∧ w = w' := by
  have H := Lib.hid h
  have ci := h i hi
  have hi' : (i : Int) < (bs.length : Int) := by omega
  clear h
  have hc : c0 < 256 := by rw [← hc0]; exact bt_lt bs i
  rw [hc0] at ci
  clear hc0
  have t0 : decide ((c0 : Int) < 128) = false := decide_eq_false (by omega)
  have t1 : decide ((194 : Int) ≤ (c0 : Int)) = true := decide_eq_true (by omega)
  have t2 : decide ((c0 : Int) ≤ 223) = false := decide_eq_false (by omega)
  have t3 : ((c0 : Int) == 224) = false := by simp; omega
  have t4 : decide ((225 : Int) ≤ (c0 : Int)) = true := decide_eq_true (by omega)
  have t5 : decide ((c0 : Int) ≤ 236) = false := decide_eq_false (by omega)
  have t6 : ((c0 : Int) == 237) = false := by simp; omega
  have t7 : ((c0 : Int) == 238) = false := by simp; omega
  have t8 : ((c0 : Int) == 239) = false := by simp; omega
  have t9 : ((c0 : Int) == 240) = false := by simp; omega
  have t10 : decide ((241 : Int) ≤ (c0 : Int)) = true := decide_eq_true (by omega)
  have t11 : decide ((c0 : Int) ≤ 243) = true := decide_eq_true (by omega)
  have s0 : decide ((bs.length : Int) - (i : Int) < 4) = false := decide_eq_false (by omega)
  have c1 := H.out (i + 1) (by omega)
  have i1 : (i : Int) + 1 < (bs.length : Int) := by omega
  have hx1 : b1 < 256 := by rw [← hb1]; exact bt_lt bs _
  rw [hb1] at c1
  clear hb1
  have c2 := H.out (i + 2) (by omega)
  have i2 : (i : Int) + 2 < (bs.length : Int) := by omega
  have hx2 : b2 < 256 := by rw [← hb2]; exact bt_lt bs _
  rw [hb2] at c2
  clear hb2
  have c3 := H.out (i + 3) (by omega)
  have i3 : (i : Int) + 3 < (bs.length : Int) := by omega
  have hx3 : b3 < 256 := by rw [← hb3]; exact bt_lt bs _
  rw [hb3] at c3
  clear hb3
  have u1 : decide ((b1 : Int) < 128) = false := decide_eq_false (by omega)
  have v1 : decide ((191 : Int) < (b1 : Int)) = false := decide_eq_false (by omega)
  have u2 : decide ((b2 : Int) < 128) = false := decide_eq_false (by omega)
  have v2 : decide ((191 : Int) < (b2 : Int)) = false := decide_eq_false (by omega)
  have u3 : decide ((b3 : Int) < 128) = true := decide_eq_true (by omega)
  go_enter Tryd.func48, Tryd.ntmps48
  go_big_wp2_with fail
  refine wp_loop_rounds 2 ?_
  rw [rounds_succ]
  go_big_wp2_with fail
  rw [rounds_succ]
  go_big_wp2_with fail
  go_ret
  exact ⟨rfl, rfl⟩
set_option maxHeartbeats 2000000 in
set_option maxRecDepth 20000 in
theorem wd_F_g3 (b o cap : Nat) (bs : List UInt8) (i c0 : Nat) (w : World) (hi : i < bs.length) (hn : bs.length ≤ 2000000) (h : Row w b o cap bs) (hc0 : bt bs i = c0) (b1 b2 b3 : Nat) (hb1 : bt bs (i + 1) = b1) (hb2 : bt bs (i + 2) = b2) (hb3 : bt bs (i + 3) = b3) (hk : 241 ≤ c0 ∧ c0 ≤ 243) (hs : 4 ≤ bs.length - i) (h1 : 128 ≤ b1 ∧ b1 ≤ 191) (h2 : 128 ≤ b2 ∧ b2 ≤ 191) (h3 : 191 < b3) :
    Calls Tryd.prog 48 #[.slice (some ⟨b, o, none⟩) bs.length cap, .int .i64 i] w fun e w' => e = .returned (.int .i64 1) ∧ w = w' := by
  have H := Lib.hid h
  have ci := h i hi
  have hi' : (i : Int) < (bs.length : Int) := by omega
  clear h
  have hc : c0 < 256 := by rw [← hc0]; exact bt_lt bs i
  rw [hc0] at ci
  clear hc0
  have t0 : decide ((c0 : Int) < 128) = false := decide_eq_false (by omega)
  have t1 : decide ((194 : Int) ≤ (c0 : Int)) = true := decide_eq_true (by omega)
  have t2 : decide ((c0 : Int) ≤ 223) = false := decide_eq_false (by omega)
  have t3 : ((c0 : Int) == 224) = false := by simp; omega
  have t4 : decide ((225 : Int) ≤ (c0 : Int)) = true := decide_eq_true (by omega)
  have t5 : decide ((c0 : Int) ≤ 236) = false := decide_eq_false (by omega)
  have t6 : ((c0 : Int) == 237) = false := by simp; omega
  have t7 : ((c0 : Int) == 238) = false := by simp; omega
  have t8 : ((c0 : Int) == 239) = false := by simp; omega
  have t9 : ((c0 : Int) == 240) = false := by simp; omega
  have t10 : decide ((241 : Int) ≤ (c0 : Int)) = true := decide_eq_true (by omega)
  have t11 : decide ((c0 : Int) ≤ 243) = true := decide_eq_true (by omega)
  have s0 : decide ((bs.length : Int) - (i : Int) < 4) = false := decide_eq_false (by omega)
  have c1 := H.out (i + 1) (by omega)
  have i1 : (i : Int) + 1 < (bs.length : Int) := by omega
  have hx1 : b1 < 256 := by rw [← hb1]; exact bt_lt bs _
  rw [hb1] at c1
  clear hb1
  have c2 := H.out (i + 2) (by omega)
  have i2 : (i : Int) + 2 < (bs.length : Int) := by omega
  have hx2 : b2 < 256 := by rw [← hb2]; exact bt_lt bs _
  rw [hb2] at c2
  clear hb2
  have c3 := H.out (i + 3) (by omega)
  have i3 : (i : Int) + 3 < (bs.length : Int) := by omega
  have hx3 : b3 < 256 := by rw [← hb3]; exact bt_lt bs _
  rw [hb3] at c3
  clear hb3
  have u1 : decide ((b1 : Int) < 128) = false := decide_eq_false (by omega)
  have v1 : decide ((191 : Int) < (b1 : Int)) = false := decide_eq_false (by omega)
  have u2 : decide ((b2 : Int) < 128) = false := decide_eq_false (by omega)
  have v2 : decide ((191 : Int) < (b2 : Int)) = false := decide_eq_false (by omega)
  have u3 : decide ((b3 : Int) < 128) = false := decide_eq_false (by omega)
  have v3 : decide ((191 : Int) < (b3 : Int)) = true := decide_eq_true (by omega)
  go_enter Tryd.func48, Tryd.ntmps48
  go_big_wp2_with fail
  refine wp_loop_rounds 2 ?_
  rw [rounds_succ]
  go_big_wp2_with fail
  rw [rounds_succ]
  go_big_wp2_with fail
  go_ret
  exact ⟨rfl, rfl⟩
set_option maxHeartbeats 2000000 in
set_option maxRecDepth 20000 in
theorem wd_F_ok (b o cap : Nat) (bs : List UInt8) (i c0 : Nat) (w : World) (hi : i < bs.length) (hn : bs.length ≤ 2000000) (h : Row w b o cap bs) (hc0 : bt bs i = c0) (b1 b2 b3 : Nat) (hb1 : bt bs (i + 1) = b1) (hb2 : bt bs (i + 2) = b2) (hb3 : bt bs (i + 3) = b3) (hk : 241 ≤ c0 ∧ c0 ≤ 243) (hs : 4 ≤ bs.length - i) (h1 : 128 ≤ b1 ∧ b1 ≤ 191) (h2 : 128 ≤ b2 ∧ b2 ≤ 191) (h3 : 128 ≤ b3 ∧ b3 ≤ 191) :
    Calls Tryd.prog 48 #[.slice (some ⟨b, o, none⟩) bs.length cap, .int .i64 i] w fun e w' => e = .returned (.int .i64 4) ∧ w = w' := by
  have H := Lib.hid h
  have ci := h i hi
  have hi' : (i : Int) < (bs.length : Int) := by omega
  clear h
  have hc : c0 < 256 := by rw [← hc0]; exact bt_lt bs i
  rw [hc0] at ci
  clear hc0
  have t0 : decide ((c0 : Int) < 128) = false := decide_eq_false (by omega)
  have t1 : decide ((194 : Int) ≤ (c0 : Int)) = true := decide_eq_true (by omega)
  have t2 : decide ((c0 : Int) ≤ 223) = false := decide_eq_false (by omega)
  have t3 : ((c0 : Int) == 224) = false := by simp; omega
  have t4 : decide ((225 : Int) ≤ (c0 : Int)) = true := decide_eq_true (by omega)
  have t5 : decide ((c0 : Int) ≤ 236) = false := decide_eq_false (by omega)
  have t6 : ((c0 : Int) == 237) = false := by simp; omega
  have t7 : ((c0 : Int) == 238) = false := by simp; omega
  have t8 : ((c0 : Int) == 239) = false := by simp; omega
  have t9 : ((c0 : Int) == 240) = false := by simp; omega
  have t10 : decide ((241 : Int) ≤ (c0 : Int)) = true := decide_eq_true (by omega)
  have t11 : decide ((c0 : Int) ≤ 243) = true := decide_eq_true (by omega)
  have s0 : decide ((bs.length : Int) - (i : Int) < 4) = false := decide_eq_false (by omega)
  have c1 := H.out (i + 1) (by omega)
  have i1 : (i : Int) + 1 < (bs.length : Int) := by omega
  have hx1 : b1 < 256 := by rw [← hb1]; exact bt_lt bs _
  rw [hb1] at c1
  clear hb1
  have c2 := H.out (i + 2) (by omega)
  have i2 : (i : Int) + 2 < (bs.length : Int) := by omega
  have hx2 : b2 < 256 := by rw [← hb2]; exact bt_lt bs _
  rw [hb2] at c2
  clear hb2
  have c3 := H.out (i + 3) (by omega)
  have i3 : (i : Int) + 3 < (bs.length : Int) := by omega
  have hx3 : b3 < 256 := by rw [← hb3]; exact bt_lt bs _
  rw [hb3] at c3
  clear hb3
  have u1 : decide ((b1 : Int) < 128) = false := decide_eq_false (by omega)
  have v1 : decide ((191 : Int) < (b1 : Int)) = false := decide_eq_false (by omega)
  have u2 : decide ((b2 : Int) < 128) = false := decide_eq_false (by omega)
  have v2 : decide ((191 : Int) < (b2 : Int)) = false := decide_eq_false (by omega)
  have u3 : decide ((b3 : Int) < 128) = false := decide_eq_false (by omega)
  have v3 : decide ((191 : Int) < (b3 : Int)) = false := decide_eq_false (by omega)
  go_enter Tryd.func48, Tryd.ntmps48
  go_big_wp2_with fail
  refine wp_loop_rounds 3 ?_
  rw [rounds_succ]
  go_big_wp2_with fail
  rw [rounds_succ]
  go_big_wp2_with fail
  rw [rounds_succ]
  go_big_wp2_with fail
  go_ret
  exact ⟨rfl, rfl⟩
set_option maxHeartbeats 2000000 in
set_option maxRecDepth 20000 in
theorem wd_G_short (b o cap : Nat) (bs : List UInt8) (i c0 : Nat) (w : World) (hi : i < bs.length) (hn : bs.length ≤ 2000000) (h : Row w b o cap bs) (hc0 : bt bs i = c0) (hk : 244 ≤ c0 ∧ c0 ≤ 244) (hs : bs.length - i < 4) :
    Calls Tryd.prog 48 #[.slice (some ⟨b, o, none⟩) bs.length cap, .int .i64 i] w fun e w' => e = .returned (.int .i64 1) ∧ w = w' := by
  have H := Lib.hid h
  have ci := h i hi
  have hi' : (i : Int) < (bs.length : Int) := by omega
  clear h
  have hc : c0 < 256 := by rw [← hc0]; exact bt_lt bs i
  rw [hc0] at ci
  clear hc0
  have t0 : decide ((c0 : Int) < 128) = false := decide_eq_false (by omega)
  have t1 : decide ((194 : Int) ≤ (c0 : Int)) = true := decide_eq_true (by omega)
  have t2 : decide ((c0 : Int) ≤ 223) = false := decide_eq_false (by omega)
  have t3 : ((c0 : Int) == 224) = false := by simp; omega
  have t4 : decide ((225 : Int) ≤ (c0 : Int)) = true := decide_eq_true (by omega)
  have t5 : decide ((c0 : Int) ≤ 236) = false := decide_eq_false (by omega)
  have t6 : ((c0 : Int) == 237) = false := by simp; omega
  have t7 : ((c0 : Int) == 238) = false := by simp; omega
  have t8 : ((c0 : Int) == 239) = false := by simp; omega
  have t9 : ((c0 : Int) == 240) = false := by simp; omega
  have t10 : decide ((241 : Int) ≤ (c0 : Int)) = true := decide_eq_true (by omega)
  have t11 : decide ((c0 : Int) ≤ 243) = false := decide_eq_false (by omega)
  have t12 : ((c0 : Int) == 244) = true := by simp; omega
  have s0 : decide ((bs.length : Int) - (i : Int) < 4) = true := decide_eq_true (by omega)
  go_enter Tryd.func48, Tryd.ntmps48
  go_big_wp2_with fail
  go_ret
  exact ⟨rfl, rfl⟩
set_option maxHeartbeats 2000000 in
set_option maxRecDepth 20000 in
theorem wd_G_l1 (b o cap : Nat) (bs : List UInt8) (i c0 : Nat) (w : World) (hi : i < bs.length) (hn : bs.length ≤ 2000000) (h : Row w b o cap bs) (hc0 : bt bs i = c0) (b1 b2 b3 : Nat) (hb1 : bt bs (i + 1) = b1) (hb2 : bt bs (i + 2) = b2) (hb3 : bt bs (i + 3) = b3) (hk : 244 ≤ c0 ∧ c0 ≤ 244) (hs : 4 ≤ bs.length - i)  (h1 : b1 < 128) :
    Calls Tryd.prog 48 #[.slice (some ⟨b, o, none⟩) bs.length cap, .int .i64 i] w fun e w' => e = .returned (.int .i64 1) ∧ w = w' := by
  have H := Lib.hid h
  have ci := h i hi
  have hi' : (i : Int) < (bs.length : Int) := by omega
  clear h
  have hc : c0 < 256 := by rw [← hc0]; exact bt_lt bs i
  rw [hc0] at ci
  clear hc0
  have t0 : decide ((c0 : Int) < 128) = false := decide_eq_false (by omega)
  have t1 : decide ((194 : Int) ≤ (c0 : Int)) = true := decide_eq_true (by omega)
  have t2 : decide ((c0 : Int) ≤ 223) = false := decide_eq_false (by omega)
  have t3 : ((c0 : Int) == 224) = false := by simp; omega
  have t4 : decide ((225 : Int) ≤ (c0 : Int)) = true := decide_eq_true (by omega)
  have t5 : decide ((c0 : Int) ≤ 236) = false := decide_eq_false (by omega)
  have t6 : ((c0 : Int) == 237) = false := by simp; omega
  have t7 : ((c0 : Int) == 238) = false := by simp; omega
  have t8 : ((c0 : Int) == 239) = false := by simp; omega
  have t9 : ((c0 : Int) == 240) = false := by simp; omega
  have t10 : decide ((241 : Int) ≤ (c0 : Int)) = true := decide_eq_true (by omega)
  have t11 : decide ((c0 : Int) ≤ 243) = false := decide_eq_false (by omega)
  have t12 : ((c0 : Int) == 244) = true := by simp; omega
  have s0 : decide ((bs.length : Int) - (i : Int) < 4) = false := decide_eq_false (by omega)
  have c1 := H.out (i + 1) (by omega)
  have i1 : (i : Int) + 1 < (bs.length : Int) := by omega
  have hx1 : b1 < 256 := by rw [← hb1]; exact bt_lt bs _
  rw [hb1] at c1
  clear hb1
  have c2 := H.out (i + 2) (by omega)
  have i2 : (i : Int) + 2 < (bs.length : Int) := by omega
  have hx2 : b2 < 256 := by rw [← hb2]; exact bt_lt bs _
  rw [hb2] at c2
  clear hb2
  have c3 := H.out (i + 3) (by omega)
  have i3 : (i : Int) + 3 < (bs.length : Int) := by omega
  have hx3 : b3 < 256 := by rw [← hb3]; exact bt_lt bs _
  rw [hb3] at c3
  clear hb3
  have u1 : decide ((b1 : Int) < 128) = true := decide_eq_true (by omega)
  go_enter Tryd.func48, Tryd.ntmps48
  go_big_wp2_with fail
  go_ret
  exact ⟨rfl, rfl⟩
set_option maxHeartbeats 2000000 in
set_option maxRecDepth 20000 in
theorem wd_G_g1 (b o cap : Nat) (bs : List UInt8) (i c0 : Nat) (w : World) (hi : i < bs.length) (hn : bs.length ≤ 2000000) (h : Row w b o cap bs) (hc0 : bt bs i = c0) (b1 b2 b3 : Nat) (hb1 : bt bs (i + 1) = b1) (hb2 : bt bs (i + 2) = b2) (hb3 : bt bs (i + 3) = b3) (hk : 244 ≤ c0 ∧ c0 ≤ 244) (hs : 4 ≤ bs.length - i)  (h1 : 143 < b1) :
    Calls Tryd.prog 48 #[.slice (some ⟨b, o, none⟩) bs.length cap, .int .i64 i] w fun e w' => e = .returned (.int .i64 1) ∧ w = w' := by
  have H := Lib.hid h
  have ci := h i hi
  have hi' : (i : Int) < (bs.length : Int) := by omega
  clear h
  have hc : c0 < 256 := by rw [← hc0]; exact bt_lt bs i
  rw [hc0] at ci
  clear hc0
  have t0 : decide ((c0 : Int) < 128) = false := decide_eq_false (by omega)
  have t1 : decide ((194 : Int) ≤ (c0 : Int)) = true := decide_eq_true (by omega)
  have t2 : decide ((c0 : Int) ≤ 223) = false := decide_eq_false (by omega)
  have t3 : ((c0 : Int) == 224) = false := by simp; omega
  have t4 : decide ((225 : Int) ≤ (c0 : Int)) = true := decide_eq_true (by omega)
  have t5 : decide ((c0 : Int) ≤ 236) = false := decide_eq_false (by omega)
  have t6 : ((c0 : Int) == 237) = false := by simp; omega
  have t7 : ((c0 : Int) == 238) = false := by simp; omega
  have t8 : ((c0 : Int) == 239) = false := by simp; omega
  have t9 : ((c0 : Int) == 240) = false := by simp; omega
  have t10 : decide ((241 : Int) ≤ (c0 : Int)) = true := decide_eq_true (by omega)
  have t11 : decide ((c0 : Int) ≤ 243) = false := decide_eq_false (by omega)
  have t12 : ((c0 : Int) == 244) = true := by simp; omega
  have s0 : decide ((bs.length : Int) - (i : Int) < 4) = false := decide_eq_false (by omega)
  have c1 := H.out (i + 1) (by omega)
  have i1 : (i : Int) + 1 < (bs.length : Int) := by omega
  have hx1 : b1 < 256 := by rw [← hb1]; exact bt_lt bs _
  rw [hb1] at c1
  clear hb1
  have c2 := H.out (i + 2) (by omega)
  have i2 : (i : Int) + 2 < (bs.length : Int) := by omega
  have hx2 : b2 < 256 := by rw [← hb2]; exact bt_lt bs _
  rw [hb2] at c2
  clear hb2
  have c3 := H.out (i + 3) (by omega)
  have i3 : (i : Int) + 3 < (bs.length : Int) := by omega
  have hx3 : b3 < 256 := by rw [← hb3]; exact bt_lt bs _
  rw [hb3] at c3
  clear hb3
  have u1 : decide ((b1 : Int) < 128) = false := decide_eq_false (by omega)
  have v1 : decide ((143 : Int) < (b1 : Int)) = true := decide_eq_true (by omega)
  go_enter Tryd.func48, Tryd.ntmps48
  go_big_wp2_with fail
  go_ret
  exact ⟨rfl, rfl⟩
set_option maxHeartbeats 2000000 in
set_option maxRecDepth 20000 in
theorem wd_G_l2 (b o cap : Nat) (bs : List UInt8) (i c0 : Nat) (w : World) (hi : i < bs.length) (hn : bs.length ≤ 2000000) (h : Row w b o cap bs) (hc0 : bt bs i = c0) (b1 b2 b3 : Nat) (hb1 : bt bs (i + 1) = b1) (hb2 : bt bs (i + 2) = b2) (hb3 : bt bs (i + 3) = b3) (hk : 244 ≤ c0 ∧ c0 ≤ 244) (hs : 4 ≤ bs.length - i) (h1 : 128 ≤ b1 ∧ b1 ≤ 143) (h2 : b2 < 128) :
    Calls Tryd.prog 48 #[.slice (some ⟨b, o, none⟩) bs.length cap, .int .i64 i] w fun e w' => e = .returned (.int .i64 1) ∧ w = w' := by
  have H := Lib.hid h
  have ci := h i hi
  have hi' : (i : Int) < (bs.length : Int) := by omega
  clear h
  have hc : c0 < 256 := by rw [← hc0]; exact bt_lt bs i
  rw [hc0] at ci
  clear hc0
  have t0 : decide ((c0 : Int) < 128) = false := decide_eq_false (by omega)
  have t1 : decide ((194 : Int) ≤ (c0 : Int)) = true := decide_eq_true (by omega)
  have t2 : decide ((c0 : Int) ≤ 223) = false := decide_eq_false (by omega)
  have t3 : ((c0 : Int) == 224) = false := by simp; omega
  have t4 : decide ((225 : Int) ≤ (c0 : Int)) = true := decide_eq_true (by omega)
  have t5 : decide ((c0 : Int) ≤ 236) = false := decide_eq_false (by omega)
  have t6 : ((c0 : Int) == 237) = false := by simp; omega
  have t7 : ((c0 : Int) == 238) = false := by simp; omega
  have t8 : ((c0 : Int) == 239) = false := by simp; omega
  have t9 : ((c0 : Int) == 240) = false := by simp; omega
  have t10 : decide ((241 : Int) ≤ (c0 : Int)) = true := decide_eq_true (by omega)
  have t11 : decide ((c0 : Int) ≤ 243) = false := decide_eq_false (by omega)
  have t12 : ((c0 : Int) == 244) = true := by simp; omega
  have s0 : decide ((bs.length : Int) - (i : Int) < 4) = false := decide_eq_false (by omega)
  have c1 := H.out (i + 1) (by omega)
  have i1 : (i : Int) + 1 < (bs.length : Int) := by omega
  have hx1 : b1 < 256 := by rw [← hb1]; exact bt_lt bs _
  rw [hb1] at c1
  clear hb1
  have c2 := H.out (i + 2) (by omega)
  have i2 : (i : Int) + 2 < (bs.length : Int) := by omega
  have hx2 : b2 < 256 := by rw [← hb2]; exact bt_lt bs _
  rw [hb2] at c2
  clear hb2
  have c3 := H.out (i + 3) (by omega)
  have i3 : (i : Int) + 3 < (bs.length : Int) := by omega
  have hx3 : b3 < 256 := by rw [← hb3]; exact bt_lt bs _
  rw [hb3] at c3
  clear hb3
  have u1 : decide ((b1 : Int) < 128) = false := decide_eq_false (by omega)
  have v1 : decide ((143 : Int) < (b1 : Int)) = false := decide_eq_false (by omega)
  have u2 : decide ((b2 : Int) < 128) = true := decide_eq_true (by omega)
  go_enter Tryd.func48, Tryd.ntmps48
  go_big_wp2_with fail
  refine wp_loop_rounds 1 ?_
  rw [rounds_succ]
  go_big_wp2_with fail
  go_ret
  exact ⟨rfl, rfl⟩
set_option maxHeartbeats 2000000 in
set_option maxRecDepth 20000 in
theorem wd_G_g2 (b o cap : Nat) (bs : List UInt8) (i c0 : Nat) (w : World) (hi : i < bs.length) (hn : bs.length ≤ 2000000) (h : Row w b o cap bs) (hc0 : bt bs i = c0) (b1 b2 b3 : Nat) (hb1 : bt bs (i + 1) = b1) (hb2 : bt bs (i + 2) = b2) (hb3 : bt bs (i + 3) = b3) (hk : 244 ≤ c0 ∧ c0 ≤ 244) (hs : 4 ≤ bs.length - i) (h1 : 128 ≤ b1 ∧ b1 ≤ 143) (h2 : 191 < b2) :
    Calls Tryd.prog 48 #[.slice (some ⟨b, o, none⟩) bs.length cap, .int .i64 i] w fun e w' => e = .returned (.int .i64 1) ∧ w = w' := by
  have H := Lib.hid h
  have ci := h i hi
  have hi' : (i : Int) < (bs.length : Int) := by omega
  clear h
  have hc : c0 < 256 := by rw [← hc0]; exact bt_lt bs i
  rw [hc0] at ci
  clear hc0
  have t0 : decide ((c0 : Int) < 128) = false := decide_eq_false (by omega)
  have t1 : decide ((194 : Int) ≤ (c0 : Int)) = true := decide_eq_true (by omega)
  have t2 : decide ((c0 : Int) ≤ 223) = false := decide_eq_false (by omega)
  have t3 : ((c0 : Int) == 224) = false := by simp; omega
  have t4 : decide ((225 : Int) ≤ (c0 : Int)) = true := decide_eq_true (by omega)
  have t5 : decide ((c0 : Int) ≤ 236) = false := decide_eq_false (by omega)
  have t6 : ((c0 : Int) == 237) = false := by simp; omega
  have t7 : ((c0 : Int) == 238) = false := by simp; omega
  have t8 : ((c0 : Int) == 239) = false := by simp; omega
  have t9 : ((c0 : Int) == 240) = false := by simp; omega
  have t10 : decide ((241 : Int) ≤ (c0 : Int)) = true := decide_eq_true (by omega)
  have t11 : decide ((c0 : Int) ≤ 243) = false := decide_eq_false (by omega)
  have t12 : ((c0 : Int) == 244) = true := by simp; omega
  have s0 : decide ((bs.length : Int) - (i : Int) < 4) = false := decide_eq_false (by omega)
  have c1 := H.out (i + 1) (by omega)
  have i1 : (i : Int) + 1 < (bs.length : Int) := by omega
  have hx1 : b1 < 256 := by rw [← hb1]; exact bt_lt bs _
  rw [hb1] at c1
  clear hb1
  have c2 := H.out (i + 2) (by omega)
  have i2 : (i : Int) + 2 < (bs.length : Int) := by omega
  have hx2 : b2 < 256 := by rw [← hb2]; exact bt_lt bs _
  rw [hb2] at c2
  clear hb2
  have c3 := H.out (i + 3) (by omega)
  have i3 : (i : Int) + 3 < (bs.length : Int) := by omega
  have hx3 : b3 < 256 := by rw [← hb3]; exact bt_lt bs _
  rw [hb3] at c3
  clear hb3
  have u1 : decide ((b1 : Int) < 128) = false := decide_eq_false (by omega)
  have v1 : decide ((143 : Int) < (b1 : Int)) = false := decide_eq_false (by omega)
  have u2 : decide ((b2 : Int) < 128) = false := decide_eq_false (by omega)
  have v2 : decide ((191 : Int) < (b2 : Int)) = true := decide_eq_true (by omega)
  go_enter Tryd.func48, Tryd.ntmps48
  go_big_wp2_with fail
  refine wp_loop_rounds 1 ?_
  rw [rounds_succ]
  go_big_wp2_with fail
  go_ret
  exact ⟨rfl, rfl⟩
set_option maxHeartbeats 2000000 in
set_option maxRecDepth 20000 in
theorem wd_G_l3 (b o cap : Nat) (bs : List UInt8) (i c0 : Nat) (w : World) (hi : i < bs.length) (hn : bs.length ≤ 2000000) (h : Row w b o cap bs) (hc0 : bt bs i = c0) (b1 b2 b3 : Nat) (hb1 : bt bs (i + 1) = b1) (hb2 : bt bs (i + 2) = b2) (hb3 : bt bs (i + 3) = b3) (hk : 244 ≤ c0 ∧ c0 ≤ 244) (hs : 4 ≤ bs.length - i) (h1 : 128 ≤ b1 ∧ b1 ≤ 143) (h2 : 128 ≤ b2 ∧ b2 ≤ 191) (h3 : b3 < 128) :
    Calls Tryd.prog 48 #[.slice (some ⟨b, o, none⟩) bs.length cap, .int .i64 i] w fun e w' => e = .returned (.int .i64 1) ∧ w = w' := by
  have H := Lib.hid h
  have ci := h i hi
  have hi' : (i : Int) < (bs.length : Int) := by omega
  clear h
  have hc : c0 < 256 := by rw [← hc0]; exact bt_lt bs i
  rw [hc0] at ci
  clear hc0
  have t0 : decide ((c0 : Int) < 128) = false := decide_eq_false (by omega)
  have t1 : decide ((194 : Int) ≤ (c0 : Int)) = true := decide_eq_true (by omega)
  have t2 : decide ((c0 : Int) ≤ 223) = false := decide_eq_false (by omega)
  have t3 : ((c0 : Int) == 224) = false := by simp; omega
  have t4 : decide ((225 : Int) ≤ (c0 : Int)) = true := decide_eq_true (by omega)
  have t5 : decide ((c0 : Int) ≤ 236) = false := decide_eq_false (by omega)
  have t6 : ((c0 : Int) == 237) = false := by simp; omega
  have t7 : ((c0 : Int) == 238) = false := by simp; omega
  have t8 : ((c0 : Int) == 239) = false := by simp; omega
  have t9 : ((c0 : Int) == 240) = false := by simp; omega
  have t10 : decide ((241 : Int) ≤ (c0 : Int)) = true := decide_eq_true (by omega)
  have t11 : decide ((c0 : Int) ≤ 243) = false := decide_eq_false (by omega)
  have t12 : ((c0 : Int) == 244) = true := by simp; omega
  have s0 : decide ((bs.length : Int) - (i : Int) < 4) = false := decide_eq_false (by omega)
  have c1 := H.out (i + 1) (by omega)
  have i1 : (i : Int) + 1 < (bs.length : Int) := by omega
  have hx1 : b1 < 256 := by rw [← hb1]; exact bt_lt bs _
  rw [hb1] at c1
  clear hb1
  have c2 := H.out (i + 2) (by omega)
  have i2 : (i : Int) + 2 < (bs.length : Int) := by omega
  have hx2 : b2 < 256 := by rw [← hb2]; exact bt_lt bs _
  rw [hb2] at c2
  clear hb2
  have c3 := H.out (i + 3) (by omega)
  have i3 : (i : Int) + 3 < (bs.length : Int) := by omega
  have hx3 : b3 < 256 := by rw [← hb3]; exact bt_lt bs _
  rw [hb3] at c3
  clear hb3
  have u1 : decide ((b1 : Int) < 128) = false := decide_eq_false (by omega)
  have v1 : decide ((143 : Int) < (b1 : Int)) = false := decide_eq_false (by omega)
  have u2 : decide ((b2 : Int) < 128) = false := decide_eq_false (by omega)
  have v2 : decide ((191 : Int) < (b2 : Int)) = false := decide_eq_false (by omega)
  have u3 : decide ((b3 : Int) < 128) = true := decide_eq_true (by omega)
  go_enter Tryd.func48, Tryd.ntmps48
  go_big_wp2_with fail
  refine wp_loop_rounds 2 ?_
  rw [rounds_succ]
  go_big_wp2_with fail
  rw [rounds_succ]
  go_big_wp2_with fail
  go_ret
  exact ⟨rfl, rfl⟩
set_option maxHeartbeats 2000000 in
set_option maxRecDepth 20000 in
theorem wd_G_g3 (b o cap : Nat) (bs : List UInt8) (i c0 : Nat) (w : World) (hi : i < bs.length) (hn : bs.length ≤ 2000000) (h : Row w b o cap bs) (hc0 : bt bs i = c0) (b1 b2 b3 : Nat) (hb1 : bt bs (i + 1) = b1) (hb2 : bt bs (i + 2) = b2) (hb3 : bt bs (i + 3) = b3) (hk : 244 ≤ c0 ∧ c0 ≤ 244) (hs : 4 ≤ bs.length - i) (h1 : 128 ≤ b1 ∧ b1 ≤ 143) (h2 : 128 ≤ b2 ∧ b2 ≤ 191) (h3 : 191 < b3) :
    Calls Tryd.prog 48 #[.slice (some ⟨b, o, none⟩) bs.length cap, .int .i64 i] w fun e w' => e = .returned (.int .i64 1) ∧ w = w' := by
  have H := Lib.hid h
  have ci := h i hi
  have hi' : (i : Int) < (bs.length : Int) := by omega
  clear h
  have hc : c0 < 256 := by rw [← hc0]; exact bt_lt bs i
  rw [hc0] at ci
  clear hc0
  have t0 : decide ((c0 : Int) < 128) = false := decide_eq_false (by omega)
  have t1 : decide ((194 : Int) ≤ (c0 : Int)) = true := decide_eq_true (by omega)
  have t2 : decide ((c0 : Int) ≤ 223) = false := decide_eq_false (by omega)
  have t3 : ((c0 : Int) == 224) = false := by simp; omega
  have t4 : decide ((225 : Int) ≤ (c0 : Int)) = true := decide_eq_true (by omega)
  have t5 : decide ((c0 : Int) ≤ 236) = false := decide_eq_false (by omega)
  have t6 : ((c0 : Int) == 237) = false := by simp; omega
  have t7 : ((c0 : Int) == 238) = false := by simp; omega
  have t8 : ((c0 : Int) == 239) = false := by simp; omega
  have t9 : ((c0 : Int) == 240) = false := by simp; omega
  have t10 : decide ((241 : Int) ≤ (c0 : Int)) = true := decide_eq_true (by omega)
  have t11 : decide ((c0 : Int) ≤ 243) = false := decide_eq_false (by omega)
  have t12 : ((c0 : Int) == 244) = true := by simp; omega
  have s0 : decide ((bs.length : Int) - (i : Int) < 4) = false := decide_eq_false (by omega)
  have c1 := H.out (i + 1) (by omega)
  have i1 : (i : Int) + 1 < (bs.length : Int) := by omega
  have hx1 : b1 < 256 := by rw [← hb1]; exact bt_lt bs _
  rw [hb1] at c1
  clear hb1
  have c2 := H.out (i + 2) (by omega)
  have i2 : (i : Int) + 2 < (bs.length : Int) := by omega
  have hx2 : b2 < 256 := by rw [← hb2]; exact bt_lt bs _
  rw [hb2] at c2
  clear hb2
  have c3 := H.out (i + 3) (by omega)
  have i3 : (i : Int) + 3 < (bs.length : Int) := by omega
  have hx3 : b3 < 256 := by rw [← hb3]; exact bt_lt bs _
  rw [hb3] at c3
  clear hb3
  have u1 : decide ((b1 : Int) < 128) = false := decide_eq_false (by omega)
  have v1 : decide ((143 : Int) < (b1 : Int)) = false := decide_eq_false (by omega)
  have u2 : decide ((b2 : Int) < 128) = false := decide_eq_false (by omega)
  have v2 : decide ((191 : Int) < (b2 : Int)) = false := decide_eq_false (by omega)
  have u3 : decide ((b3 : Int) < 128) = false := decide_eq_false (by omega)
  have v3 : decide ((191 : Int) < (b3 : Int)) = true := decide_eq_true (by omega)
  go_enter Tryd.func48, Tryd.ntmps48
  go_big_wp2_with fail
  refine wp_loop_rounds 2 ?_
  rw [rounds_succ]
  go_big_wp2_with fail
  rw [rounds_succ]
  go_big_wp2_with fail
  go_ret
  exact ⟨rfl, rfl⟩
set_option maxHeartbeats 2000000 in
set_option maxRecDepth 20000 in
theorem wd_G_ok (b o cap : Nat) (bs : List UInt8) (i c0 : Nat) (w : World) (hi : i < bs.length) (hn : bs.length ≤ 2000000) (h : Row w b o cap bs) (hc0 : bt bs i = c0) (b1 b2 b3 : Nat) (hb1 : bt bs (i + 1) = b1) (hb2 : bt bs (i + 2) = b2) (hb3 : bt bs (i + 3) = b3) (hk : 244 ≤ c0 ∧ c0 ≤ 244) (hs : 4 ≤ bs.length - i) (h1 : 128 ≤ b1 ∧ b1 ≤ 143) (h2 : 128 ≤ b2 ∧ b2 ≤ 191) (h3 : 128 ≤ b3 ∧ b3 ≤ 191) :
    Calls Tryd.prog 48 #[.slice (some ⟨b, o, none⟩) bs.length cap, .int .i64 i] w fun e w' => e = .returned (.int .i64 4) ∧ w = w' := by
  have H := Lib.hid h
  have ci := h i hi
  have hi' : (i : Int) < (bs.length : Int) := by omega
  clear h
  have hc : c0 < 256 := by rw [← hc0]; exact bt_lt bs i
  rw [hc0] at ci
  clear hc0
  have t0 : decide ((c0 : Int) < 128) = false := decide_eq_false (by omega)
  have t1 : decide ((194 : Int) ≤ (c0 : Int)) = true := decide_eq_true (by omega)
  have t2 : decide ((c0 : Int) ≤ 223) = false := decide_eq_false (by omega)
  have t3 : ((c0 : Int) == 224) = false := by simp; omega
  have t4 : decide ((225 : Int) ≤ (c0 : Int)) = true := decide_eq_true (by omega)
  have t5 : decide ((c0 : Int) ≤ 236) = false := decide_eq_false (by omega)
  have t6 : ((c0 : Int) == 237) = false := by simp; omega
  have t7 : ((c0 : Int) == 238) = false := by simp; omega
  have t8 : ((c0 : Int) == 239) = false := by simp; omega
  have t9 : ((c0 : Int) == 240) = false := by simp; omega
  have t10 : decide ((241 : Int) ≤ (c0 : Int)) = true := decide_eq_true (by omega)
  have t11 : decide ((c0 : Int) ≤ 243) = false := decide_eq_false (by omega)
  have t12 : ((c0 : Int) == 244) = true := by simp; omega
  have s0 : decide ((bs.length : Int) - (i : Int) < 4) = false := decide_eq_false (by omega)
  have c1 := H.out (i + 1) (by omega)
  have i1 : (i : Int) + 1 < (bs.length : Int) := by omega
  have hx1 : b1 < 256 := by rw [← hb1]; exact bt_lt bs _
  rw [hb1] at c1
  clear hb1
  have c2 := H.out (i + 2) (by omega)
  have i2 : (i : Int) + 2 < (bs.length : Int) := by omega
  have hx2 : b2 < 256 := by rw [← hb2]; exact bt_lt bs _
  rw [hb2] at c2
  clear hb2
  have c3 := H.out (i + 3) (by omega)
  have i3 : (i : Int) + 3 < (bs.length : Int) := by omega
  have hx3 : b3 < 256 := by rw [← hb3]; exact bt_lt bs _
  rw [hb3] at c3
  clear hb3
  have u1 : decide ((b1 : Int) < 128) = false := decide_eq_false (by omega)
  have v1 : decide ((143 : Int) < (b1 : Int)) = false := decide_eq_false (by omega)
  have u2 : decide ((b2 : Int) < 128) = false := decide_eq_false (by omega)
  have v2 : decide ((191 : Int) < (b2 : Int)) = false := decide_eq_false (by omega)
  have u3 : decide ((b3 : Int) < 128) = false := decide_eq_false (by omega)
  have v3 : decide ((191 : Int) < (b3 : Int)) = false := decide_eq_false (by omega)
  go_enter Tryd.func48, Tryd.ntmps48
  go_big_wp2_with fail
  refine wp_loop_rounds 3 ?_
  rw [rounds_succ]
  go_big_wp2_with fail
  rw [rounds_succ]
  go_big_wp2_with fail
  rw [rounds_succ]
  go_big_wp2_with fail
  go_ret
  exact ⟨rfl, rfl⟩
theorem decW_S (n b0 b1 b2 b3 : Nat) (h : b0 < 128) : (Lib.decodeN n b0 b1 b2 b3).2 = 1 := by unfold Lib.decodeN; rw [if_pos h]
theorem decW_none (n b0 b1 b2 b3 : Nat) (h0 : b0 < 256) (h1 : b1 < 256) (h2 : b2 < 256) (h3 : b3 < 256) (hb : (128 ≤ b0 ∧ b0 < 194) ∨ 244 < b0) : (Lib.decodeN n b0 b1 b2 b3).2 = 1 := by
  unfold Lib.decodeN
  rw [if_neg (by omega)]
  repeat' split
  all_goals first | (exfalso; omega) | rfl
theorem decW_A_bad (n b0 b1 b2 b3 : Nat) (h0 : b0 < 256) (h1 : b1 < 256) (h2 : b2 < 256) (h3 : b3 < 256) (hk : 194 ≤ b0 ∧ b0 ≤ 223) (hb : n < 2 ∨ b1 < 128 ∨ 191 < b1) : (Lib.decodeN n b0 b1 b2 b3).2 = 1 := by
  unfold Lib.decodeN
  rw [if_neg (by omega)]
  repeat' split
  all_goals first | (exfalso; omega) | rfl
theorem decW_A_ok (n b0 b1 b2 b3 : Nat) (h0 : b0 < 256) (h1 : b1 < 256) (h2 : b2 < 256) (h3 : b3 < 256) (hk : 194 ≤ b0 ∧ b0 ≤ 223) (hb : 2 ≤ n ∧ 128 ≤ b1 ∧ b1 ≤ 191) : (Lib.decodeN n b0 b1 b2 b3).2 = 2 := by
  unfold Lib.decodeN
  rw [if_neg (by omega)]
  repeat' split
  all_goals first | (exfalso; omega) | rfl
theorem decW_B_bad (n b0 b1 b2 b3 : Nat) (h0 : b0 < 256) (h1 : b1 < 256) (h2 : b2 < 256) (h3 : b3 < 256) (hk : 224 ≤ b0 ∧ b0 ≤ 224) (hb : n < 3 ∨ b1 < 160 ∨ 191 < b1 ∨ b2 < 128 ∨ 191 < b2) : (Lib.decodeN n b0 b1 b2 b3).2 = 1 := by
  unfold Lib.decodeN
  rw [if_neg (by omega)]
  repeat' split
  all_goals first | (exfalso; omega) | rfl
theorem decW_B_ok (n b0 b1 b2 b3 : Nat) (h0 : b0 < 256) (h1 : b1 < 256) (h2 : b2 < 256) (h3 : b3 < 256) (hk : 224 ≤ b0 ∧ b0 ≤ 224) (hb : 3 ≤ n ∧ 160 ≤ b1 ∧ b1 ≤ 191 ∧ 128 ≤ b2 ∧ b2 ≤ 191) : (Lib.decodeN n b0 b1 b2 b3).2 = 3 := by
  unfold Lib.decodeN
  rw [if_neg (by omega)]
  repeat' split
  all_goals first | (exfalso; omega) | rfl
theorem decW_D1_bad (n b0 b1 b2 b3 : Nat) (h0 : b0 < 256) (h1 : b1 < 256) (h2 : b2 < 256) (h3 : b3 < 256) (hk : 225 ≤ b0 ∧ b0 ≤ 236) (hb : n < 3 ∨ b1 < 128 ∨ 191 < b1 ∨ b2 < 128 ∨ 191 < b2) : (Lib.decodeN n b0 b1 b2 b3).2 = 1 := by
  unfold Lib.decodeN
  rw [if_neg (by omega)]
  repeat' split
  all_goals first | (exfalso; omega) | rfl
theorem decW_D1_ok (n b0 b1 b2 b3 : Nat) (h0 : b0 < 256) (h1 : b1 < 256) (h2 : b2 < 256) (h3 : b3 < 256) (hk : 225 ≤ b0 ∧ b0 ≤ 236) (hb : 3 ≤ n ∧ 128 ≤ b1 ∧ b1 ≤ 191 ∧ 128 ≤ b2 ∧ b2 ≤ 191) : (Lib.decodeN n b0 b1 b2 b3).2 = 3 := by
  unfold Lib.decodeN
  rw [if_neg (by omega)]
  repeat' split
  all_goals first | (exfalso; omega) | rfl
theorem decW_C_bad (n b0 b1 b2 b3 : Nat) (h0 : b0 < 256) (h1 : b1 < 256) (h2 : b2 < 256) (h3 : b3 < 256) (hk : 237 ≤ b0 ∧ b0 ≤ 237) (hb : n < 3 ∨ b1 < 128 ∨ 159 < b1 ∨ b2 < 128 ∨ 191 < b2) : (Lib.decodeN n b0 b1 b2 b3).2 = 1 := by
  unfold Lib.decodeN
  rw [if_neg (by omega)]
  repeat' split
  all_goals first | (exfalso; omega) | rfl
theorem decW_C_ok (n b0 b1 b2 b3 : Nat) (h0 : b0 < 256) (h1 : b1 < 256) (h2 : b2 < 256) (h3 : b3 < 256) (hk : 237 ≤ b0 ∧ b0 ≤ 237) (hb : 3 ≤ n ∧ 128 ≤ b1 ∧ b1 ≤ 159 ∧ 128 ≤ b2 ∧ b2 ≤ 191) : (Lib.decodeN n b0 b1 b2 b3).2 = 3 := by
  unfold Lib.decodeN
  rw [if_neg (by omega)]
  repeat' split
  all_goals first | (exfalso; omega) | rfl
theorem decW_D2_bad (n b0 b1 b2 b3 : Nat) (h0 : b0 < 256) (h1 : b1 < 256) (h2 : b2 < 256) (h3 : b3 < 256) (hk : 238 ≤ b0 ∧ b0 ≤ 238) (hb : n < 3 ∨ b1 < 128 ∨ 191 < b1 ∨ b2 < 128 ∨ 191 < b2) : (Lib.decodeN n b0 b1 b2 b3).2 = 1 := by
  unfold Lib.decodeN
  rw [if_neg (by omega)]
  repeat' split
  all_goals first | (exfalso; omega) | rfl
theorem decW_D2_ok (n b0 b1 b2 b3 : Nat) (h0 : b0 < 256) (h1 : b1 < 256) (h2 : b2 < 256) (h3 : b3 < 256) (hk : 238 ≤ b0 ∧ b0 ≤ 238) (hb : 3 ≤ n ∧ 128 ≤ b1 ∧ b1 ≤ 191 ∧ 128 ≤ b2 ∧ b2 ≤ 191) : (Lib.decodeN n b0 b1 b2 b3).2 = 3 := by
  unfold Lib.decodeN
  rw [if_neg (by omega)]
  repeat' split
  all_goals first | (exfalso; omega) | rfl
theorem decW_D3_bad (n b0 b1 b2 b3 : Nat) (h0 : b0 < 256) (h1 : b1 < 256) (h2 : b2 < 256) (h3 : b3 < 256) (hk : 239 ≤ b0 ∧ b0 ≤ 239) (hb : n < 3 ∨ b1 < 128 ∨ 191 < b1 ∨ b2 < 128 ∨ 191 < b2) : (Lib.decodeN n b0 b1 b2 b3).2 = 1 := by
  unfold Lib.decodeN
  rw [if_neg (by omega)]
  repeat' split
  all_goals first | (exfalso; omega) | rfl
theorem decW_D3_ok (n b0 b1 b2 b3 : Nat) (h0 : b0 < 256) (h1 : b1 < 256) (h2 : b2 < 256) (h3 : b3 < 256) (hk : 239 ≤ b0 ∧ b0 ≤ 239) (hb : 3 ≤ n ∧ 128 ≤ b1 ∧ b1 ≤ 191 ∧ 128 ≤ b2 ∧ b2 ≤ 191) : (Lib.decodeN n b0 b1 b2 b3).2 = 3 := by
  unfold Lib.decodeN
  rw [if_neg (by omega)]
  repeat' split
  all_goals first | (exfalso; omega) | rfl
theorem decW_E_bad (n b0 b1 b2 b3 : Nat) (h0 : b0 < 256) (h1 : b1 < 256) (h2 : b2 < 256) (h3 : b3 < 256) (hk : 240 ≤ b0 ∧ b0 ≤ 240) (hb : n < 4 ∨ b1 < 144 ∨ 191 < b1 ∨ b2 < 128 ∨ 191 < b2 ∨ b3 < 128 ∨ 191 < b3) : (Lib.decodeN n b0 b1 b2 b3).2 = 1 := by
  unfold Lib.decodeN
  rw [if_neg (by omega)]
  repeat' split
  all_goals first | (exfalso; omega) | rfl
theorem decW_E_ok (n b0 b1 b2 b3 : Nat) (h0 : b0 < 256) (h1 : b1 < 256) (h2 : b2 < 256) (h3 : b3 < 256) (hk : 240 ≤ b0 ∧ b0 ≤ 240) (hb : 4 ≤ n ∧ 144 ≤ b1 ∧ b1 ≤ 191 ∧ 128 ≤ b2 ∧ b2 ≤ 191 ∧ 128 ≤ b3 ∧ b3 ≤ 191) : (Lib.decodeN n b0 b1 b2 b3).2 = 4 := by
  unfold Lib.decodeN
  rw [if_neg (by omega)]
  repeat' split
  all_goals first | (exfalso; omega) | rfl
theorem decW_F_bad (n b0 b1 b2 b3 : Nat) (h0 : b0 < 256) (h1 : b1 < 256) (h2 : b2 < 256) (h3 : b3 < 256) (hk : 241 ≤ b0 ∧ b0 ≤ 243) (hb : n < 4 ∨ b1 < 128 ∨ 191 < b1 ∨ b2 < 128 ∨ 191 < b2 ∨ b3 < 128 ∨ 191 < b3) : (Lib.decodeN n b0 b1 b2 b3).2 = 1 := by
  unfold Lib.decodeN
  rw [if_neg (by omega)]
  repeat' split
  all_goals first | (exfalso; omega) | rfl
theorem decW_F_ok (n b0 b1 b2 b3 : Nat) (h0 : b0 < 256) (h1 : b1 < 256) (h2 : b2 < 256) (h3 : b3 < 256) (hk : 241 ≤ b0 ∧ b0 ≤ 243) (hb : 4 ≤ n ∧ 128 ≤ b1 ∧ b1 ≤ 191 ∧ 128 ≤ b2 ∧ b2 ≤ 191 ∧ 128 ≤ b3 ∧ b3 ≤ 191) : (Lib.decodeN n b0 b1 b2 b3).2 = 4 := by
  unfold Lib.decodeN
  rw [if_neg (by omega)]
  repeat' split
  all_goals first | (exfalso; omega) | rfl
theorem decW_G_bad (n b0 b1 b2 b3 : Nat) (h0 : b0 < 256) (h1 : b1 < 256) (h2 : b2 < 256) (h3 : b3 < 256) (hk : 244 ≤ b0 ∧ b0 ≤ 244) (hb : n < 4 ∨ b1 < 128 ∨ 143 < b1 ∨ b2 < 128 ∨ 191 < b2 ∨ b3 < 128 ∨ 191 < b3) : (Lib.decodeN n b0 b1 b2 b3).2 = 1 := by
  unfold Lib.decodeN
  rw [if_neg (by omega)]
  repeat' split
  all_goals first | (exfalso; omega) | rfl
theorem decW_G_ok (n b0 b1 b2 b3 : Nat) (h0 : b0 < 256) (h1 : b1 < 256) (h2 : b2 < 256) (h3 : b3 < 256) (hk : 244 ≤ b0 ∧ b0 ≤ 244) (hb : 4 ≤ n ∧ 128 ≤ b1 ∧ b1 ≤ 143 ∧ 128 ≤ b2 ∧ b2 ≤ 191 ∧ 128 ≤ b3 ∧ b3 ≤ 191) : (Lib.decodeN n b0 b1 b2 b3).2 = 4 := by
  unfold Lib.decodeN
  rw [if_neg (by omega)]
  repeat' split
  all_goals first | (exfalso; omega) | rfl
theorem width_any (b o cap : Nat) (bs : List UInt8) (i : Nat) (w : World) (hi : i < bs.length) (hn : bs.length ≤ 2000000) (h : Row w b o cap bs) :
    Calls Tryd.prog 48 #[.slice (some ⟨b, o, none⟩) bs.length cap, .int .i64 i] w fun e w' => e = .returned (.int .i64 (dec bs i).2) ∧ w = w' := by
  have x0 := bt_lt bs i
  have x1 := bt_lt bs (i + 1)
  have x2 := bt_lt bs (i + 2)
  have x3 := bt_lt bs (i + 3)
  have hd : dec bs i = Lib.decodeN (bs.length - i) (bt bs i) (bt bs (i + 1)) (bt bs (i + 2)) (bt bs (i + 3)) := rfl
  rw [hd]
  clear hd
  have hcl : bt bs i < 128 ∨ (128 ≤ bt bs i ∧ bt bs i < 194) ∨ 244 < bt bs i ∨ (194 ≤ bt bs i ∧ bt bs i ≤ 223) ∨ (224 ≤ bt bs i ∧ bt bs i ≤ 224) ∨ (225 ≤ bt bs i ∧ bt bs i ≤ 236) ∨ (237 ≤ bt bs i ∧ bt bs i ≤ 237) ∨ (238 ≤ bt bs i ∧ bt bs i ≤ 238) ∨ (239 ≤ bt bs i ∧ bt bs i ≤ 239) ∨ (240 ≤ bt bs i ∧ bt bs i ≤ 240) ∨ (241 ≤ bt bs i ∧ bt bs i ≤ 243) ∨ (244 ≤ bt bs i ∧ bt bs i ≤ 244) := by omega
  rcases hcl with hk | hk | hk | hk | hk | hk | hk | hk | hk | hk | hk | hk
  · rw [decW_S _ _ _ _ _ hk]; exact wd_S b o cap bs i _ w hi hn h rfl hk
  · rw [decW_none _ _ _ _ _ x0 x1 x2 x3 (.inl hk)]; exact wd_L b o cap bs i _ w hi hn h rfl hk
  · rw [decW_none _ _ _ _ _ x0 x1 x2 x3 (.inr hk)]; exact wd_H b o cap bs i _ w hi hn h rfl hk
  · by_cases hs : bs.length - i < 2
    · rw [decW_A_bad _ _ _ _ _ x0 x1 x2 x3 hk (by omega)]; exact wd_A_short b o cap bs i _ w hi hn h rfl hk hs
    · have hs' : 2 ≤ bs.length - i := by omega
      by_cases l1 : bt bs (i + 1) < 128
      · rw [decW_A_bad _ _ _ _ _ x0 x1 x2 x3 hk (by omega)]; exact wd_A_l1 b o cap bs i _ w hi hn h rfl _ rfl hk hs'  l1
      by_cases g1 : 191 < bt bs (i + 1)
      · rw [decW_A_bad _ _ _ _ _ x0 x1 x2 x3 hk (by omega)]; exact wd_A_g1 b o cap bs i _ w hi hn h rfl _ rfl hk hs'  g1
      rw [decW_A_ok _ _ _ _ _ x0 x1 x2 x3 hk (by omega)]; exact wd_A_ok b o cap bs i _ w hi hn h rfl _ rfl hk hs' ⟨by omega, by omega⟩
  · by_cases hs : bs.length - i < 3
    · rw [decW_B_bad _ _ _ _ _ x0 x1 x2 x3 hk (by omega)]; exact wd_B_short b o cap bs i _ w hi hn h rfl hk hs
    · have hs' : 3 ≤ bs.length - i := by omega
      by_cases l1 : bt bs (i + 1) < 160
      · rw [decW_B_bad _ _ _ _ _ x0 x1 x2 x3 hk (by omega)]; exact wd_B_l1 b o cap bs i _ w hi hn h rfl _ _ rfl rfl hk hs'  l1
      by_cases g1 : 191 < bt bs (i + 1)
      · rw [decW_B_bad _ _ _ _ _ x0 x1 x2 x3 hk (by omega)]; exact wd_B_g1 b o cap bs i _ w hi hn h rfl _ _ rfl rfl hk hs'  g1
      by_cases l2 : bt bs (i + 2) < 128
      · rw [decW_B_bad _ _ _ _ _ x0 x1 x2 x3 hk (by omega)]; exact wd_B_l2 b o cap bs i _ w hi hn h rfl _ _ rfl rfl hk hs' ⟨by omega, by omega⟩ l2
      by_cases g2 : 191 < bt bs (i + 2)
      · rw [decW_B_bad _ _ _ _ _ x0 x1 x2 x3 hk (by omega)]; exact wd_B_g2 b o cap bs i _ w hi hn h rfl _ _ rfl rfl hk hs' ⟨by omega, by omega⟩ g2
      rw [decW_B_ok _ _ _ _ _ x0 x1 x2 x3 hk (by omega)]; exact wd_B_ok b o cap bs i _ w hi hn h rfl _ _ rfl rfl hk hs' ⟨by omega, by omega⟩ ⟨by omega, by omega⟩
  · by_cases hs : bs.length - i < 3
    · rw [decW_D1_bad _ _ _ _ _ x0 x1 x2 x3 hk (by omega)]; exact wd_D1_short b o cap bs i _ w hi hn h rfl hk hs
    · have hs' : 3 ≤ bs.length - i := by omega
      by_cases l1 : bt bs (i + 1) < 128
      · rw [decW_D1_bad _ _ _ _ _ x0 x1 x2 x3 hk (by omega)]; exact wd_D1_l1 b o cap bs i _ w hi hn h rfl _ _ rfl rfl hk hs'  l1
      by_cases g1 : 191 < bt bs (i + 1)
      · rw [decW_D1_bad _ _ _ _ _ x0 x1 x2 x3 hk (by omega)]; exact wd_D1_g1 b o cap bs i _ w hi hn h rfl _ _ rfl rfl hk hs'  g1
      by_cases l2 : bt bs (i + 2) < 128
      · rw [decW_D1_bad _ _ _ _ _ x0 x1 x2 x3 hk (by omega)]; exact wd_D1_l2 b o cap bs i _ w hi hn h rfl _ _ rfl rfl hk hs' ⟨by omega, by omega⟩ l2
      by_cases g2 : 191 < bt bs (i + 2)
      · rw [decW_D1_bad _ _ _ _ _ x0 x1 x2 x3 hk (by omega)]; exact wd_D1_g2 b o cap bs i _ w hi hn h rfl _ _ rfl rfl hk hs' ⟨by omega, by omega⟩ g2
      rw [decW_D1_ok _ _ _ _ _ x0 x1 x2 x3 hk (by omega)]; exact wd_D1_ok b o cap bs i _ w hi hn h rfl _ _ rfl rfl hk hs' ⟨by omega, by omega⟩ ⟨by omega, by omega⟩
  · by_cases hs : bs.length - i < 3
    · rw [decW_C_bad _ _ _ _ _ x0 x1 x2 x3 hk (by omega)]; exact wd_C_short b o cap bs i _ w hi hn h rfl hk hs
    · have hs' : 3 ≤ bs.length - i := by omega
      by_cases l1 : bt bs (i + 1) < 128
      · rw [decW_C_bad _ _ _ _ _ x0 x1 x2 x3 hk (by omega)]; exact wd_C_l1 b o cap bs i _ w hi hn h rfl _ _ rfl rfl hk hs'  l1
      by_cases g1 : 159 < bt bs (i + 1)
      · rw [decW_C_bad _ _ _ _ _ x0 x1 x2 x3 hk (by omega)]; exact wd_C_g1 b o cap bs i _ w hi hn h rfl _ _ rfl rfl hk hs'  g1
      by_cases l2 : bt bs (i + 2) < 128
      · rw [decW_C_bad _ _ _ _ _ x0 x1 x2 x3 hk (by omega)]; exact wd_C_l2 b o cap bs i _ w hi hn h rfl _ _ rfl rfl hk hs' ⟨by omega, by omega⟩ l2
      by_cases g2 : 191 < bt bs (i + 2)
      · rw [decW_C_bad _ _ _ _ _ x0 x1 x2 x3 hk (by omega)]; exact wd_C_g2 b o cap bs i _ w hi hn h rfl _ _ rfl rfl hk hs' ⟨by omega, by omega⟩ g2
      rw [decW_C_ok _ _ _ _ _ x0 x1 x2 x3 hk (by omega)]; exact wd_C_ok b o cap bs i _ w hi hn h rfl _ _ rfl rfl hk hs' ⟨by omega, by omega⟩ ⟨by omega, by omega⟩
  · by_cases hs : bs.length - i < 3
    · rw [decW_D2_bad _ _ _ _ _ x0 x1 x2 x3 hk (by omega)]; exact wd_D2_short b o cap bs i _ w hi hn h rfl hk hs
    · have hs' : 3 ≤ bs.length - i := by omega
      by_cases l1 : bt bs (i + 1) < 128
      · rw [decW_D2_bad _ _ _ _ _ x0 x1 x2 x3 hk (by omega)]; exact wd_D2_l1 b o cap bs i _ w hi hn h rfl _ _ rfl rfl hk hs'  l1
      by_cases g1 : 191 < bt bs (i + 1)
      · rw [decW_D2_bad _ _ _ _ _ x0 x1 x2 x3 hk (by omega)]; exact wd_D2_g1 b o cap bs i _ w hi hn h rfl _ _ rfl rfl hk hs'  g1
      by_cases l2 : bt bs (i + 2) < 128
      · rw [decW_D2_bad _ _ _ _ _ x0 x1 x2 x3 hk (by omega)]; exact wd_D2_l2 b o cap bs i _ w hi hn h rfl _ _ rfl rfl hk hs' ⟨by omega, by omega⟩ l2
      by_cases g2 : 191 < bt bs (i + 2)
      · rw [decW_D2_bad _ _ _ _ _ x0 x1 x2 x3 hk (by omega)]; exact wd_D2_g2 b o cap bs i _ w hi hn h rfl _ _ rfl rfl hk hs' ⟨by omega, by omega⟩ g2
      rw [decW_D2_ok _ _ _ _ _ x0 x1 x2 x3 hk (by omega)]; exact wd_D2_ok b o cap bs i _ w hi hn h rfl _ _ rfl rfl hk hs' ⟨by omega, by omega⟩ ⟨by omega, by omega⟩
  · by_cases hs : bs.length - i < 3
    · rw [decW_D3_bad _ _ _ _ _ x0 x1 x2 x3 hk (by omega)]; exact wd_D3_short b o cap bs i _ w hi hn h rfl hk hs
    · have hs' : 3 ≤ bs.length - i := by omega
      by_cases l1 : bt bs (i + 1) < 128
      · rw [decW_D3_bad _ _ _ _ _ x0 x1 x2 x3 hk (by omega)]; exact wd_D3_l1 b o cap bs i _ w hi hn h rfl _ _ rfl rfl hk hs'  l1
      by_cases g1 : 191 < bt bs (i + 1)
      · rw [decW_D3_bad _ _ _ _ _ x0 x1 x2 x3 hk (by omega)]; exact wd_D3_g1 b o cap bs i _ w hi hn h rfl _ _ rfl rfl hk hs'  g1
      by_cases l2 : bt bs (i + 2) < 128
      · rw [decW_D3_bad _ _ _ _ _ x0 x1 x2 x3 hk (by omega)]; exact wd_D3_l2 b o cap bs i _ w hi hn h rfl _ _ rfl rfl hk hs' ⟨by omega, by omega⟩ l2
      by_cases g2 : 191 < bt bs (i + 2)
      · rw [decW_D3_bad _ _ _ _ _ x0 x1 x2 x3 hk (by omega)]; exact wd_D3_g2 b o cap bs i _ w hi hn h rfl _ _ rfl rfl hk hs' ⟨by omega, by omega⟩ g2
      rw [decW_D3_ok _ _ _ _ _ x0 x1 x2 x3 hk (by omega)]; exact wd_D3_ok b o cap bs i _ w hi hn h rfl _ _ rfl rfl hk hs' ⟨by omega, by omega⟩ ⟨by omega, by omega⟩
  · by_cases hs : bs.length - i < 4
    · rw [decW_E_bad _ _ _ _ _ x0 x1 x2 x3 hk (by omega)]; exact wd_E_short b o cap bs i _ w hi hn h rfl hk hs
    · have hs' : 4 ≤ bs.length - i := by omega
      by_cases l1 : bt bs (i + 1) < 144
      · rw [decW_E_bad _ _ _ _ _ x0 x1 x2 x3 hk (by omega)]; exact wd_E_l1 b o cap bs i _ w hi hn h rfl _ _ _ rfl rfl rfl hk hs'  l1
      by_cases g1 : 191 < bt bs (i + 1)
      · rw [decW_E_bad _ _ _ _ _ x0 x1 x2 x3 hk (by omega)]; exact wd_E_g1 b o cap bs i _ w hi hn h rfl _ _ _ rfl rfl rfl hk hs'  g1
      by_cases l2 : bt bs (i + 2) < 128
      · rw [decW_E_bad _ _ _ _ _ x0 x1 x2 x3 hk (by omega)]; exact wd_E_l2 b o cap bs i _ w hi hn h rfl _ _ _ rfl rfl rfl hk hs' ⟨by omega, by omega⟩ l2
      by_cases g2 : 191 < bt bs (i + 2)
      · rw [decW_E_bad _ _ _ _ _ x0 x1 x2 x3 hk (by omega)]; exact wd_E_g2 b o cap bs i _ w hi hn h rfl _ _ _ rfl rfl rfl hk hs' ⟨by omega, by omega⟩ g2
      by_cases l3 : bt bs (i + 3) < 128
      · rw [decW_E_bad _ _ _ _ _ x0 x1 x2 x3 hk (by omega)]; exact wd_E_l3 b o cap bs i _ w hi hn h rfl _ _ _ rfl rfl rfl hk hs' ⟨by omega, by omega⟩ ⟨by omega, by omega⟩ l3
      by_cases g3 : 191 < bt bs (i + 3)
      · rw [decW_E_bad _ _ _ _ _ x0 x1 x2 x3 hk (by omega)]; exact wd_E_g3 b o cap bs i _ w hi hn h rfl _ _ _ rfl rfl rfl hk hs' ⟨by omega, by omega⟩ ⟨by omega, by omega⟩ g3
      rw [decW_E_ok _ _ _ _ _ x0 x1 x2 x3 hk (by omega)]; exact wd_E_ok b o cap bs i _ w hi hn h rfl _ _ _ rfl rfl rfl hk hs' ⟨by omega, by omega⟩ ⟨by omega, by omega⟩ ⟨by omega, by omega⟩
  · by_cases hs : bs.length - i < 4
    · rw [decW_F_bad _ _ _ _ _ x0 x1 x2 x3 hk (by omega)]; exact wd_F_short b o cap bs i _ w hi hn h rfl hk hs
    · have hs' : 4 ≤ bs.length - i := by omega
      by_cases l1 : bt bs (i + 1) < 128
      · rw [decW_F_bad _ _ _ _ _ x0 x1 x2 x3 hk (by omega)]; exact wd_F_l1 b o cap bs i _ w hi hn h rfl _ _ _ rfl rfl rfl hk hs'  l1
      by_cases g1 : 191 < bt bs (i + 1)
      · rw [decW_F_bad _ _ _ _ _ x0 x1 x2 x3 hk (by omega)]; exact wd_F_g1 b o cap bs i _ w hi hn h rfl _ _ _ rfl rfl rfl hk hs'  g1
      by_cases l2 : bt bs (i + 2) < 128
      · rw [decW_F_bad _ _ _ _ _ x0 x1 x2 x3 hk (by omega)]; exact wd_F_l2 b o cap bs i _ w hi hn h rfl _ _ _ rfl rfl rfl hk hs' ⟨by omega, by omega⟩ l2
      by_cases g2 : 191 < bt bs (i + 2)
      · rw [decW_F_bad _ _ _ _ _ x0 x1 x2 x3 hk (by omega)]; exact wd_F_g2 b o cap bs i _ w hi hn h rfl _ _ _ rfl rfl rfl hk hs' ⟨by omega, by omega⟩ g2
      by_cases l3 : bt bs (i + 3) < 128
      · rw [decW_F_bad _ _ _ _ _ x0 x1 x2 x3 hk (by omega)]; exact wd_F_l3 b o cap bs i _ w hi hn h rfl _ _ _ rfl rfl rfl hk hs' ⟨by omega, by omega⟩ ⟨by omega, by omega⟩ l3
      by_cases g3 : 191 < bt bs (i + 3)
      · rw [decW_F_bad _ _ _ _ _ x0 x1 x2 x3 hk (by omega)]; exact wd_F_g3 b o cap bs i _ w hi hn h rfl _ _ _ rfl rfl rfl hk hs' ⟨by omega, by omega⟩ ⟨by omega, by omega⟩ g3
      rw [decW_F_ok _ _ _ _ _ x0 x1 x2 x3 hk (by omega)]; exact wd_F_ok b o cap bs i _ w hi hn h rfl _ _ _ rfl rfl rfl hk hs' ⟨by omega, by omega⟩ ⟨by omega, by omega⟩ ⟨by omega, by omega⟩
  · by_cases hs : bs.length - i < 4
    · rw [decW_G_bad _ _ _ _ _ x0 x1 x2 x3 hk (by omega)]; exact wd_G_short b o cap bs i _ w hi hn h rfl hk hs
    · have hs' : 4 ≤ bs.length - i := by omega
      by_cases l1 : bt bs (i + 1) < 128
      · rw [decW_G_bad _ _ _ _ _ x0 x1 x2 x3 hk (by omega)]; exact wd_G_l1 b o cap bs i _ w hi hn h rfl _ _ _ rfl rfl rfl hk hs'  l1
      by_cases g1 : 143 < bt bs (i + 1)
      · rw [decW_G_bad _ _ _ _ _ x0 x1 x2 x3 hk (by omega)]; exact wd_G_g1 b o cap bs i _ w hi hn h rfl _ _ _ rfl rfl rfl hk hs'  g1
      by_cases l2 : bt bs (i + 2) < 128
      · rw [decW_G_bad _ _ _ _ _ x0 x1 x2 x3 hk (by omega)]; exact wd_G_l2 b o cap bs i _ w hi hn h rfl _ _ _ rfl rfl rfl hk hs' ⟨by omega, by omega⟩ l2
      by_cases g2 : 191 < bt bs (i + 2)
      · rw [decW_G_bad _ _ _ _ _ x0 x1 x2 x3 hk (by omega)]; exact wd_G_g2 b o cap bs i _ w hi hn h rfl _ _ _ rfl rfl rfl hk hs' ⟨by omega, by omega⟩ g2
      by_cases l3 : bt bs (i + 3) < 128
      · rw [decW_G_bad _ _ _ _ _ x0 x1 x2 x3 hk (by omega)]; exact wd_G_l3 b o cap bs i _ w hi hn h rfl _ _ _ rfl rfl rfl hk hs' ⟨by omega, by omega⟩ ⟨by omega, by omega⟩ l3
      by_cases g3 : 191 < bt bs (i + 3)
      · rw [decW_G_bad _ _ _ _ _ x0 x1 x2 x3 hk (by omega)]; exact wd_G_g3 b o cap bs i _ w hi hn h rfl _ _ _ rfl rfl rfl hk hs' ⟨by omega, by omega⟩ ⟨by omega, by omega⟩ g3
      rw [decW_G_ok _ _ _ _ _ x0 x1 x2 x3 hk (by omega)]; exact wd_G_ok b o cap bs i _ w hi hn h rfl _ _ _ rfl rfl rfl hk hs' ⟨by omega, by omega⟩ ⟨by omega, by omega⟩ ⟨by omega, by omega⟩
end Go.Proofs.YtpniflbleihdoaaDoor.Core
