/-
  Proved: n002_85's own check of UTF-8 (zzCont, zzValidUTF8At, zzBadAt, zzIsBOMAt), as plain functions, and that they agree with the decoder.
  Conditions: the text lies in memory.
-/
import Derived.Test.YtcaolpebjpilgaaFmtLive
import Derived.BigFrame
namespace Go.Proofs.YtcaolpebjpilgaaFmt.Init
open Go.ChangeShapes Go.WideShapes Go.ChangeAt Go.RowKit Core
set_option linter.unusedVariables false

def cont (bs : List UInt8) (i lo hi : Nat) : Bool := decide (i < bs.length ∧ lo ≤ bt bs i ∧ bt bs i ≤ hi)
/-- A row of bytes that can be indexed: not nil where it has a byte. -/
def Row (w : World) (b o cap : Nat) (bs : List UInt8) : Prop := ∀ j, j < bs.length → w.cell? ⟨b, o + j, none⟩ = some (.int .u8 (bt bs j))

theorem cont_any (b o cap : Nat) (bs : List UInt8) (j : Int) (k lo hi : Nat) (w : World) (hj : j = (k : Int)) (h : Row w b o cap bs) (hl : lo < 256) (hh : hi < 256) :
    Calls Tryf.prog 39 #[.slice (some ⟨b, o, none⟩) bs.length cap, .int .i64 j, .int .u8 lo, .int .u8 hi] w fun e w' => e = .returned (.bool (cont bs k lo hi)) ∧ w = w' := by
  subst hj
  have H := Lib.hid h
  clear h
  by_cases hk : k < bs.length
  · have hk' : (k : Int) < (bs.length : Int) := by omega
    have c := H.out k hk
    by_cases h1 : lo ≤ bt bs k
    · have d1 : decide ((lo : Int) ≤ ((bt bs k : Nat) : Int)) = true := decide_eq_true (by omega)
      by_cases h2 : bt bs k ≤ hi
      · have d2 : decide (((bt bs k : Nat) : Int) ≤ (hi : Int)) = true := decide_eq_true (by omega)
        have e : cont bs k lo hi = true := by unfold cont; exact decide_eq_true ⟨hk, h1, h2⟩
        rw [e]
        clear e
        go_enter Tryf.func39, Tryf.ntmps39
        go_wp2_with fail
        go_ret
        exact ⟨rfl, rfl⟩
      · have d2 : decide (((bt bs k : Nat) : Int) ≤ (hi : Int)) = false := decide_eq_false (by omega)
        have e : cont bs k lo hi = false := by unfold cont; exact decide_eq_false (by omega)
        rw [e]
        clear e
        go_enter Tryf.func39, Tryf.ntmps39
        go_wp2_with fail
        go_ret
        exact ⟨rfl, rfl⟩
    · have d1 : decide ((lo : Int) ≤ ((bt bs k : Nat) : Int)) = false := decide_eq_false (by omega)
      have e : cont bs k lo hi = false := by unfold cont; exact decide_eq_false (by omega)
      rw [e]
      clear e
      go_enter Tryf.func39, Tryf.ntmps39
      go_wp2_with fail
      go_ret
      exact ⟨rfl, rfl⟩
  · have hk' : decide ((k : Int) < (bs.length : Int)) = false := decide_eq_false (by omega)
    have e : cont bs k lo hi = false := by unfold cont; exact decide_eq_false (by omega)
    rw [e]
    clear e
    go_enter Tryf.func39, Tryf.ntmps39
    go_wp2_with fail
    go_ret
    exact ⟨rfl, rfl⟩

def validC (c : Nat) (f : Nat → Nat → Nat → Bool) : Bool :=
  if 194 ≤ c ∧ c ≤ 223 then f 1 128 191 else if c = 224 then f 1 160 191 && f 2 128 191 else if c = 237 then f 1 128 159 && f 2 128 191 else if 225 ≤ c ∧ c ≤ 239 then f 1 128 191 && f 2 128 191 else if c = 240 then f 1 144 191 && f 2 128 191 && f 3 128 191 else if 241 ≤ c ∧ c ≤ 243 then f 1 128 191 && f 2 128 191 && f 3 128 191 else if c = 244 then f 1 128 143 && f 2 128 191 && f 3 128 191 else false

def valid (bs : List UInt8) (i : Nat) : Bool := validC (bt bs i) fun k lo hi => cont bs (i + k) lo hi

set_option maxHeartbeats 2000000 in
set_option maxRecDepth 20000 in
theorem valid_0 (b o cap : Nat) (bs : List UInt8) (i c : Nat) (w : World) (hi : i < bs.length) (hn : bs.length ≤ 2000000) (h : Row w b o cap bs) (hcc : bt bs i = c) (hk : 194 ≤ c ∧ c ≤ 223) :
    Calls Tryf.prog 33 #[.slice (some ⟨b, o, none⟩) bs.length cap, .int .i64 i] w fun e w' => e = .returned (.bool (valid bs i)) ∧ w = w' := by
  have H := Lib.hid h
  have ci := h i hi
  have hi' : (i : Int) < (bs.length : Int) := by omega
  clear h
  have hv : valid bs i = validC c fun k lo hi => cont bs (i + k) lo hi := by unfold valid; rw [hcc]
  have hc : c < 256 := by rw [← hcc]; exact bt_lt bs i
  rw [hcc] at ci
  clear hcc
  have t0 : decide ((194 : Int) ≤ (c : Int)) = true := decide_eq_true (by omega)
  have t1 : decide ((c : Int) ≤ 223) = true := decide_eq_true (by omega)
  have e : valid bs i = (cont bs (i + 1) 128 191) := by rw [hv]; unfold validC; rw [if_pos (by omega)]
  clear hv
  cases r0 : cont bs (i + 1) 128 191 with
  | false =>
    have C0 := Lib.hid (cont_any b o cap bs ((i : Int) + 1) (i + 1) 128 191 w (by omega) H.out (by omega) (by omega))
    rw [r0] at C0
    have E : valid bs i = false := by simp [e, r0]
    rw [E]
    clear E e r0
    go_enter Tryf.func33, Tryf.ntmps33
    go_big_wp2_with (first | (go_at_call 39; refine C0.out.mono ?_; clear C0; rintro e w1 ⟨rfl, rfl⟩))
    go_ret
    exact ⟨rfl, rfl⟩
  | true =>
    have C0 := Lib.hid (cont_any b o cap bs ((i : Int) + 1) (i + 1) 128 191 w (by omega) H.out (by omega) (by omega))
    rw [r0] at C0
    have E : valid bs i = true := by simp [e, r0]
    rw [E]
    clear E e r0
    go_enter Tryf.func33, Tryf.ntmps33
    go_big_wp2_with (first | (go_at_call 39; refine C0.out.mono ?_; clear C0; rintro e w1 ⟨rfl, rfl⟩))
    go_ret
    exact ⟨rfl, rfl⟩
set_option maxHeartbeats 2000000 in
set_option maxRecDepth 20000 in
theorem valid_1 (b o cap : Nat) (bs : List UInt8) (i c : Nat) (w : World) (hi : i < bs.length) (hn : bs.length ≤ 2000000) (h : Row w b o cap bs) (hcc : bt bs i = c) (hk : c = 224) :
    Calls Tryf.prog 33 #[.slice (some ⟨b, o, none⟩) bs.length cap, .int .i64 i] w fun e w' => e = .returned (.bool (valid bs i)) ∧ w = w' := by
  have H := Lib.hid h
  have ci := h i hi
  have hi' : (i : Int) < (bs.length : Int) := by omega
  clear h
  have hv : valid bs i = validC c fun k lo hi => cont bs (i + k) lo hi := by unfold valid; rw [hcc]
  have hc : c < 256 := by rw [← hcc]; exact bt_lt bs i
  rw [hcc] at ci
  clear hcc
  have t0 : decide ((194 : Int) ≤ (c : Int)) = true := decide_eq_true (by omega)
  have t1 : decide ((c : Int) ≤ 223) = false := decide_eq_false (by omega)
  have t2 : ((c : Int) == 224) = true := by simp; omega
  have e : valid bs i = (cont bs (i + 1) 160 191 && cont bs (i + 2) 128 191) := by rw [hv]; unfold validC; rw [if_neg (by omega), if_pos (by omega)]
  clear hv
  cases r0 : cont bs (i + 1) 160 191 with
  | false =>
    have C0 := Lib.hid (cont_any b o cap bs ((i : Int) + 1) (i + 1) 160 191 w (by omega) H.out (by omega) (by omega))
    rw [r0] at C0
    have E : valid bs i = false := by simp [e, r0]
    rw [E]
    clear E e r0
    go_enter Tryf.func33, Tryf.ntmps33
    go_big_wp2_with (first | (go_at_call 39; refine C0.out.mono ?_; clear C0; rintro e w1 ⟨rfl, rfl⟩))
    go_ret
    exact ⟨rfl, rfl⟩
  | true =>
    cases r1 : cont bs (i + 2) 128 191 with
    | false =>
      have C0 := Lib.hid (cont_any b o cap bs ((i : Int) + 1) (i + 1) 160 191 w (by omega) H.out (by omega) (by omega))
      rw [r0] at C0
      have C1 := Lib.hid (cont_any b o cap bs ((i : Int) + 2) (i + 2) 128 191 w (by omega) H.out (by omega) (by omega))
      rw [r1] at C1
      have E : valid bs i = false := by simp [e, r0, r1]
      rw [E]
      clear E e r0 r1
      go_enter Tryf.func33, Tryf.ntmps33
      go_big_wp2_with (first | (go_at_call 39; refine C0.out.mono ?_; clear C0; rintro e w1 ⟨rfl, rfl⟩) | (go_at_call 39; refine C1.out.mono ?_; clear C1; rintro e w1 ⟨rfl, rfl⟩))
      go_ret
      exact ⟨rfl, rfl⟩
    | true =>
      have C0 := Lib.hid (cont_any b o cap bs ((i : Int) + 1) (i + 1) 160 191 w (by omega) H.out (by omega) (by omega))
      rw [r0] at C0
      have C1 := Lib.hid (cont_any b o cap bs ((i : Int) + 2) (i + 2) 128 191 w (by omega) H.out (by omega) (by omega))
      rw [r1] at C1
      have E : valid bs i = true := by simp [e, r0, r1]
      rw [E]
      clear E e r0 r1
      go_enter Tryf.func33, Tryf.ntmps33
      go_big_wp2_with (first | (go_at_call 39; refine C0.out.mono ?_; clear C0; rintro e w1 ⟨rfl, rfl⟩) | (go_at_call 39; refine C1.out.mono ?_; clear C1; rintro e w1 ⟨rfl, rfl⟩))
      go_ret
      exact ⟨rfl, rfl⟩
set_option maxHeartbeats 2000000 in
set_option maxRecDepth 20000 in
theorem valid_2 (b o cap : Nat) (bs : List UInt8) (i c : Nat) (w : World) (hi : i < bs.length) (hn : bs.length ≤ 2000000) (h : Row w b o cap bs) (hcc : bt bs i = c) (hk : c = 237) :
    Calls Tryf.prog 33 #[.slice (some ⟨b, o, none⟩) bs.length cap, .int .i64 i] w fun e w' => e = .returned (.bool (valid bs i)) ∧ w = w' := by
  have H := Lib.hid h
  have ci := h i hi
  have hi' : (i : Int) < (bs.length : Int) := by omega
  clear h
  have hv : valid bs i = validC c fun k lo hi => cont bs (i + k) lo hi := by unfold valid; rw [hcc]
  have hc : c < 256 := by rw [← hcc]; exact bt_lt bs i
  rw [hcc] at ci
  clear hcc
  have t0 : decide ((194 : Int) ≤ (c : Int)) = true := decide_eq_true (by omega)
  have t1 : decide ((c : Int) ≤ 223) = false := decide_eq_false (by omega)
  have t2 : ((c : Int) == 224) = false := by simp; omega
  have t3 : ((c : Int) == 237) = true := by simp; omega
  have e : valid bs i = (cont bs (i + 1) 128 159 && cont bs (i + 2) 128 191) := by rw [hv]; unfold validC; rw [if_neg (by omega), if_neg (by omega), if_pos (by omega)]
  clear hv
  cases r0 : cont bs (i + 1) 128 159 with
  | false =>
    have C0 := Lib.hid (cont_any b o cap bs ((i : Int) + 1) (i + 1) 128 159 w (by omega) H.out (by omega) (by omega))
    rw [r0] at C0
    have E : valid bs i = false := by simp [e, r0]
    rw [E]
    clear E e r0
    go_enter Tryf.func33, Tryf.ntmps33
    go_big_wp2_with (first | (go_at_call 39; refine C0.out.mono ?_; clear C0; rintro e w1 ⟨rfl, rfl⟩))
    go_ret
    exact ⟨rfl, rfl⟩
  | true =>
    cases r1 : cont bs (i + 2) 128 191 with
    | false =>
      have C0 := Lib.hid (cont_any b o cap bs ((i : Int) + 1) (i + 1) 128 159 w (by omega) H.out (by omega) (by omega))
      rw [r0] at C0
      have C1 := Lib.hid (cont_any b o cap bs ((i : Int) + 2) (i + 2) 128 191 w (by omega) H.out (by omega) (by omega))
      rw [r1] at C1
      have E : valid bs i = false := by simp [e, r0, r1]
      rw [E]
      clear E e r0 r1
      go_enter Tryf.func33, Tryf.ntmps33
      go_big_wp2_with (first | (go_at_call 39; refine C0.out.mono ?_; clear C0; rintro e w1 ⟨rfl, rfl⟩) | (go_at_call 39; refine C1.out.mono ?_; clear C1; rintro e w1 ⟨rfl, rfl⟩))
      go_ret
      exact ⟨rfl, rfl⟩
    | true =>
      have C0 := Lib.hid (cont_any b o cap bs ((i : Int) + 1) (i + 1) 128 159 w (by omega) H.out (by omega) (by omega))
      rw [r0] at C0
      have C1 := Lib.hid (cont_any b o cap bs ((i : Int) + 2) (i + 2) 128 191 w (by omega) H.out (by omega) (by omega))
      rw [r1] at C1
      have E : valid bs i = true := by simp [e, r0, r1]
      rw [E]
      clear E e r0 r1
      go_enter Tryf.func33, Tryf.ntmps33
      go_big_wp2_with (first | (go_at_call 39; refine C0.out.mono ?_; clear C0; rintro e w1 ⟨rfl, rfl⟩) | (go_at_call 39; refine C1.out.mono ?_; clear C1; rintro e w1 ⟨rfl, rfl⟩))
      go_ret
      exact ⟨rfl, rfl⟩
set_option maxHeartbeats 2000000 in
set_option maxRecDepth 20000 in
theorem valid_3 (b o cap : Nat) (bs : List UInt8) (i c : Nat) (w : World) (hi : i < bs.length) (hn : bs.length ≤ 2000000) (h : Row w b o cap bs) (hcc : bt bs i = c) (hk : 225 ≤ c ∧ c ≤ 239 ∧ c ≠ 237) :
    Calls Tryf.prog 33 #[.slice (some ⟨b, o, none⟩) bs.length cap, .int .i64 i] w fun e w' => e = .returned (.bool (valid bs i)) ∧ w = w' := by
  have H := Lib.hid h
  have ci := h i hi
  have hi' : (i : Int) < (bs.length : Int) := by omega
  clear h
  have hv : valid bs i = validC c fun k lo hi => cont bs (i + k) lo hi := by unfold valid; rw [hcc]
  have hc : c < 256 := by rw [← hcc]; exact bt_lt bs i
  rw [hcc] at ci
  clear hcc
  have t0 : decide ((194 : Int) ≤ (c : Int)) = true := decide_eq_true (by omega)
  have t1 : decide ((c : Int) ≤ 223) = false := decide_eq_false (by omega)
  have t2 : ((c : Int) == 224) = false := by simp; omega
  have t3 : ((c : Int) == 237) = false := by simp; omega
  have t4 : decide ((225 : Int) ≤ (c : Int)) = true := decide_eq_true (by omega)
  have t5 : decide ((c : Int) ≤ 239) = true := decide_eq_true (by omega)
  have e : valid bs i = (cont bs (i + 1) 128 191 && cont bs (i + 2) 128 191) := by rw [hv]; unfold validC; rw [if_neg (by omega), if_neg (by omega), if_neg (by omega), if_pos (by omega)]
  clear hv
  cases r0 : cont bs (i + 1) 128 191 with
  | false =>
    have C0 := Lib.hid (cont_any b o cap bs ((i : Int) + 1) (i + 1) 128 191 w (by omega) H.out (by omega) (by omega))
    rw [r0] at C0
    have E : valid bs i = false := by simp [e, r0]
    rw [E]
    clear E e r0
    go_enter Tryf.func33, Tryf.ntmps33
    go_big_wp2_with (first | (go_at_call 39; refine C0.out.mono ?_; clear C0; rintro e w1 ⟨rfl, rfl⟩))
    go_ret
    exact ⟨rfl, rfl⟩
  | true =>
    cases r1 : cont bs (i + 2) 128 191 with
    | false =>
      have C0 := Lib.hid (cont_any b o cap bs ((i : Int) + 1) (i + 1) 128 191 w (by omega) H.out (by omega) (by omega))
      rw [r0] at C0
      have C1 := Lib.hid (cont_any b o cap bs ((i : Int) + 2) (i + 2) 128 191 w (by omega) H.out (by omega) (by omega))
      rw [r1] at C1
      have E : valid bs i = false := by simp [e, r0, r1]
      rw [E]
      clear E e r0 r1
      go_enter Tryf.func33, Tryf.ntmps33
      go_big_wp2_with (first | (go_at_call 39; refine C0.out.mono ?_; clear C0; rintro e w1 ⟨rfl, rfl⟩) | (go_at_call 39; refine C1.out.mono ?_; clear C1; rintro e w1 ⟨rfl, rfl⟩))
      go_ret
      exact ⟨rfl, rfl⟩
    | true =>
      have C0 := Lib.hid (cont_any b o cap bs ((i : Int) + 1) (i + 1) 128 191 w (by omega) H.out (by omega) (by omega))
      rw [r0] at C0
      have C1 := Lib.hid (cont_any b o cap bs ((i : Int) + 2) (i + 2) 128 191 w (by omega) H.out (by omega) (by omega))
      rw [r1] at C1
      have E : valid bs i = true := by simp [e, r0, r1]
      rw [E]
      clear E e r0 r1
      go_enter Tryf.func33, Tryf.ntmps33
      go_big_wp2_with (first | (go_at_call 39; refine C0.out.mono ?_; clear C0; rintro e w1 ⟨rfl, rfl⟩) | (go_at_call 39; refine C1.out.mono ?_; clear C1; rintro e w1 ⟨rfl, rfl⟩))
      go_ret
      exact ⟨rfl, rfl⟩
set_option maxHeartbeats 2000000 in
set_option maxRecDepth 20000 in
theorem valid_4 (b o cap : Nat) (bs : List UInt8) (i c : Nat) (w : World) (hi : i < bs.length) (hn : bs.length ≤ 2000000) (h : Row w b o cap bs) (hcc : bt bs i = c) (hk : c = 240) :
    Calls Tryf.prog 33 #[.slice (some ⟨b, o, none⟩) bs.length cap, .int .i64 i] w fun e w' => e = .returned (.bool (valid bs i)) ∧ w = w' := by
  have H := Lib.hid h
  have ci := h i hi
  have hi' : (i : Int) < (bs.length : Int) := by omega
  clear h
  have hv : valid bs i = validC c fun k lo hi => cont bs (i + k) lo hi := by unfold valid; rw [hcc]
  have hc : c < 256 := by rw [← hcc]; exact bt_lt bs i
  rw [hcc] at ci
  clear hcc
  have t0 : decide ((194 : Int) ≤ (c : Int)) = true := decide_eq_true (by omega)
  have t1 : decide ((c : Int) ≤ 223) = false := decide_eq_false (by omega)
  have t2 : ((c : Int) == 224) = false := by simp; omega
  have t3 : ((c : Int) == 237) = false := by simp; omega
  have t4 : decide ((225 : Int) ≤ (c : Int)) = true := decide_eq_true (by omega)
  have t5 : decide ((c : Int) ≤ 239) = false := decide_eq_false (by omega)
  have t6 : ((c : Int) == 240) = true := by simp; omega
  have e : valid bs i = (cont bs (i + 1) 144 191 && cont bs (i + 2) 128 191 && cont bs (i + 3) 128 191) := by rw [hv]; unfold validC; rw [if_neg (by omega), if_neg (by omega), if_neg (by omega), if_neg (by omega), if_pos (by omega)]
  clear hv
  cases r0 : cont bs (i + 1) 144 191 with
  | false =>
    have C0 := Lib.hid (cont_any b o cap bs ((i : Int) + 1) (i + 1) 144 191 w (by omega) H.out (by omega) (by omega))
    rw [r0] at C0
    have E : valid bs i = false := by simp [e, r0]
    rw [E]
    clear E e r0
    go_enter Tryf.func33, Tryf.ntmps33
    go_big_wp2_with (first | (go_at_call 39; refine C0.out.mono ?_; clear C0; rintro e w1 ⟨rfl, rfl⟩))
    go_ret
    exact ⟨rfl, rfl⟩
  | true =>
    cases r1 : cont bs (i + 2) 128 191 with
    | false =>
      have C0 := Lib.hid (cont_any b o cap bs ((i : Int) + 1) (i + 1) 144 191 w (by omega) H.out (by omega) (by omega))
      rw [r0] at C0
      have C1 := Lib.hid (cont_any b o cap bs ((i : Int) + 2) (i + 2) 128 191 w (by omega) H.out (by omega) (by omega))
      rw [r1] at C1
      have E : valid bs i = false := by simp [e, r0, r1]
      rw [E]
      clear E e r0 r1
      go_enter Tryf.func33, Tryf.ntmps33
      go_big_wp2_with (first | (go_at_call 39; refine C0.out.mono ?_; clear C0; rintro e w1 ⟨rfl, rfl⟩) | (go_at_call 39; refine C1.out.mono ?_; clear C1; rintro e w1 ⟨rfl, rfl⟩))
      go_ret
      exact ⟨rfl, rfl⟩
    | true =>
      cases r2 : cont bs (i + 3) 128 191 with
      | false =>
        have C0 := Lib.hid (cont_any b o cap bs ((i : Int) + 1) (i + 1) 144 191 w (by omega) H.out (by omega) (by omega))
        rw [r0] at C0
        have C1 := Lib.hid (cont_any b o cap bs ((i : Int) + 2) (i + 2) 128 191 w (by omega) H.out (by omega) (by omega))
        rw [r1] at C1
        have C2 := Lib.hid (cont_any b o cap bs ((i : Int) + 3) (i + 3) 128 191 w (by omega) H.out (by omega) (by omega))
        rw [r2] at C2
        have E : valid bs i = false := by simp [e, r0, r1, r2]
        rw [E]
        clear E e r0 r1 r2
        go_enter Tryf.func33, Tryf.ntmps33
        go_big_wp2_with (first | (go_at_call 39; refine C0.out.mono ?_; clear C0; rintro e w1 ⟨rfl, rfl⟩) | (go_at_call 39; refine C1.out.mono ?_; clear C1; rintro e w1 ⟨rfl, rfl⟩) | (go_at_call 39; refine C2.out.mono ?_; clear C2; rintro e w1 ⟨rfl, rfl⟩))
        go_ret
        exact ⟨rfl, rfl⟩
      | true =>
        have C0 := Lib.hid (cont_any b o cap bs ((i : Int) + 1) (i + 1) 144 191 w (by omega) H.out (by omega) (by omega))
        rw [r0] at C0
        have C1 := Lib.hid (cont_any b o cap bs ((i : Int) + 2) (i + 2) 128 191 w (by omega) H.out (by omega) (by omega))
        rw [r1] at C1
        have C2 := Lib.hid (cont_any b o cap bs ((i : Int) + 3) (i + 3) 128 191 w (by omega) H.out (by omega) (by omega))
        rw [r2] at C2
        have E : valid bs i = true := by simp [e, r0, r1, r2]
        rw [E]
        clear E e r0 r1 r2
        go_enter Tryf.func33, Tryf.ntmps33
        go_big_wp2_with (first | (go_at_call 39; refine C0.out.mono ?_; clear C0; rintro e w1 ⟨rfl, rfl⟩) | (go_at_call 39; refine C1.out.mono ?_; clear C1; rintro e w1 ⟨rfl, rfl⟩) | (go_at_call 39; refine C2.out.mono ?_; clear C2; rintro e w1 ⟨rfl, rfl⟩))
        go_ret
        exact ⟨rfl, rfl⟩
set_option maxHeartbeats 2000000 in
set_option maxRecDepth 20000 in
theorem valid_5 (b o cap : Nat) (bs : List UInt8) (i c : Nat) (w : World) (hi : i < bs.length) (hn : bs.length ≤ 2000000) (h : Row w b o cap bs) (hcc : bt bs i = c) (hk : 241 ≤ c ∧ c ≤ 243) :
    Calls Tryf.prog 33 #[.slice (some ⟨b, o, none⟩) bs.length cap, .int .i64 i] w fun e w' => e = .returned (.bool (valid bs i)) ∧ w = w' := by
  have H := Lib.hid h
  have ci := h i hi
  have hi' : (i : Int) < (bs.length : Int) := by omega
  clear h
  have hv : valid bs i = validC c fun k lo hi => cont bs (i + k) lo hi := by unfold valid; rw [hcc]
  have hc : c < 256 := by rw [← hcc]; exact bt_lt bs i
  rw [hcc] at ci
  clear hcc
  have t0 : decide ((194 : Int) ≤ (c : Int)) = true := decide_eq_true (by omega)
  have t1 : decide ((c : Int) ≤ 223) = false := decide_eq_false (by omega)
  have t2 : ((c : Int) == 224) = false := by simp; omega
  have t3 : ((c : Int) == 237) = false := by simp; omega
  have t4 : decide ((225 : Int) ≤ (c : Int)) = true := decide_eq_true (by omega)
  have t5 : decide ((c : Int) ≤ 239) = false := decide_eq_false (by omega)
  have t6 : ((c : Int) == 240) = false := by simp; omega
  have t7 : decide ((241 : Int) ≤ (c : Int)) = true := decide_eq_true (by omega)
  have t8 : decide ((c : Int) ≤ 243) = true := decide_eq_true (by omega)
  have e : valid bs i = (cont bs (i + 1) 128 191 && cont bs (i + 2) 128 191 && cont bs (i + 3) 128 191) := by rw [hv]; unfold validC; rw [if_neg (by omega), if_neg (by omega), if_neg (by omega), if_neg (by omega), if_neg (by omega), if_pos (by omega)]
  clear hv
  cases r0 : cont bs (i + 1) 128 191 with
  | false =>
    have C0 := Lib.hid (cont_any b o cap bs ((i : Int) + 1) (i + 1) 128 191 w (by omega) H.out (by omega) (by omega))
    rw [r0] at C0
    have E : valid bs i = false := by simp [e, r0]
    rw [E]
    clear E e r0
    go_enter Tryf.func33, Tryf.ntmps33
    go_big_wp2_with (first | (go_at_call 39; refine C0.out.mono ?_; clear C0; rintro e w1 ⟨rfl, rfl⟩))
    go_ret
    exact ⟨rfl, rfl⟩
  | true =>
    cases r1 : cont bs (i + 2) 128 191 with
    | false =>
      have C0 := Lib.hid (cont_any b o cap bs ((i : Int) + 1) (i + 1) 128 191 w (by omega) H.out (by omega) (by omega))
      rw [r0] at C0
      have C1 := Lib.hid (cont_any b o cap bs ((i : Int) + 2) (i + 2) 128 191 w (by omega) H.out (by omega) (by omega))
      rw [r1] at C1
      have E : valid bs i = false := by simp [e, r0, r1]
      rw [E]
      clear E e r0 r1
      go_enter Tryf.func33, Tryf.ntmps33
      go_big_wp2_with (first | (go_at_call 39; refine C0.out.mono ?_; clear C0; rintro e w1 ⟨rfl, rfl⟩) | (go_at_call 39; refine C1.out.mono ?_; clear C1; rintro e w1 ⟨rfl, rfl⟩))
      go_ret
      exact ⟨rfl, rfl⟩
    | true =>
      cases r2 : cont bs (i + 3) 128 191 with
      | false =>
        have C0 := Lib.hid (cont_any b o cap bs ((i : Int) + 1) (i + 1) 128 191 w (by omega) H.out (by omega) (by omega))
        rw [r0] at C0
        have C1 := Lib.hid (cont_any b o cap bs ((i : Int) + 2) (i + 2) 128 191 w (by omega) H.out (by omega) (by omega))
        rw [r1] at C1
        have C2 := Lib.hid (cont_any b o cap bs ((i : Int) + 3) (i + 3) 128 191 w (by omega) H.out (by omega) (by omega))
        rw [r2] at C2
        have E : valid bs i = false := by simp [e, r0, r1, r2]
        rw [E]
        clear E e r0 r1 r2
        go_enter Tryf.func33, Tryf.ntmps33
        go_big_wp2_with (first | (go_at_call 39; refine C0.out.mono ?_; clear C0; rintro e w1 ⟨rfl, rfl⟩) | (go_at_call 39; refine C1.out.mono ?_; clear C1; rintro e w1 ⟨rfl, rfl⟩) | (go_at_call 39; refine C2.out.mono ?_; clear C2; rintro e w1 ⟨rfl, rfl⟩))
        go_ret
        exact ⟨rfl, rfl⟩
      | true =>
        have C0 := Lib.hid (cont_any b o cap bs ((i : Int) + 1) (i + 1) 128 191 w (by omega) H.out (by omega) (by omega))
        rw [r0] at C0
        have C1 := Lib.hid (cont_any b o cap bs ((i : Int) + 2) (i + 2) 128 191 w (by omega) H.out (by omega) (by omega))
        rw [r1] at C1
        have C2 := Lib.hid (cont_any b o cap bs ((i : Int) + 3) (i + 3) 128 191 w (by omega) H.out (by omega) (by omega))
        rw [r2] at C2
        have E : valid bs i = true := by simp [e, r0, r1, r2]
        rw [E]
        clear E e r0 r1 r2
        go_enter Tryf.func33, Tryf.ntmps33
        go_big_wp2_with (first | (go_at_call 39; refine C0.out.mono ?_; clear C0; rintro e w1 ⟨rfl, rfl⟩) | (go_at_call 39; refine C1.out.mono ?_; clear C1; rintro e w1 ⟨rfl, rfl⟩) | (go_at_call 39; refine C2.out.mono ?_; clear C2; rintro e w1 ⟨rfl, rfl⟩))
        go_ret
        exact ⟨rfl, rfl⟩
set_option maxHeartbeats 2000000 in
set_option maxRecDepth 20000 in
theorem valid_6 (b o cap : Nat) (bs : List UInt8) (i c : Nat) (w : World) (hi : i < bs.length) (hn : bs.length ≤ 2000000) (h : Row w b o cap bs) (hcc : bt bs i = c) (hk : c = 244) :
    Calls Tryf.prog 33 #[.slice (some ⟨b, o, none⟩) bs.length cap, .int .i64 i] w fun e w' => e = .returned (.bool (valid bs i)) ∧ w = w' := by
  have H := Lib.hid h
  have ci := h i hi
  have hi' : (i : Int) < (bs.length : Int) := by omega
  clear h
  have hv : valid bs i = validC c fun k lo hi => cont bs (i + k) lo hi := by unfold valid; rw [hcc]
  have hc : c < 256 := by rw [← hcc]; exact bt_lt bs i
  rw [hcc] at ci
  clear hcc
  have t0 : decide ((194 : Int) ≤ (c : Int)) = true := decide_eq_true (by omega)
  have t1 : decide ((c : Int) ≤ 223) = false := decide_eq_false (by omega)
  have t2 : ((c : Int) == 224) = false := by simp; omega
  have t3 : ((c : Int) == 237) = false := by simp; omega
  have t4 : decide ((225 : Int) ≤ (c : Int)) = true := decide_eq_true (by omega)
  have t5 : decide ((c : Int) ≤ 239) = false := decide_eq_false (by omega)
  have t6 : ((c : Int) == 240) = false := by simp; omega
  have t7 : decide ((241 : Int) ≤ (c : Int)) = true := decide_eq_true (by omega)
  have t8 : decide ((c : Int) ≤ 243) = false := decide_eq_false (by omega)
  have t9 : ((c : Int) == 244) = true := by simp; omega
  have e : valid bs i = (cont bs (i + 1) 128 143 && cont bs (i + 2) 128 191 && cont bs (i + 3) 128 191) := by rw [hv]; unfold validC; rw [if_neg (by omega), if_neg (by omega), if_neg (by omega), if_neg (by omega), if_neg (by omega), if_neg (by omega), if_pos (by omega)]
  clear hv
  cases r0 : cont bs (i + 1) 128 143 with
  | false =>
    have C0 := Lib.hid (cont_any b o cap bs ((i : Int) + 1) (i + 1) 128 143 w (by omega) H.out (by omega) (by omega))
    rw [r0] at C0
    have E : valid bs i = false := by simp [e, r0]
    rw [E]
    clear E e r0
    go_enter Tryf.func33, Tryf.ntmps33
    go_big_wp2_with (first | (go_at_call 39; refine C0.out.mono ?_; clear C0; rintro e w1 ⟨rfl, rfl⟩))
    go_ret
    exact ⟨rfl, rfl⟩
  | true =>
    cases r1 : cont bs (i + 2) 128 191 with
    | false =>
      have C0 := Lib.hid (cont_any b o cap bs ((i : Int) + 1) (i + 1) 128 143 w (by omega) H.out (by omega) (by omega))
      rw [r0] at C0
      have C1 := Lib.hid (cont_any b o cap bs ((i : Int) + 2) (i + 2) 128 191 w (by omega) H.out (by omega) (by omega))
      rw [r1] at C1
      have E : valid bs i = false := by simp [e, r0, r1]
      rw [E]
      clear E e r0 r1
      go_enter Tryf.func33, Tryf.ntmps33
      go_big_wp2_with (first | (go_at_call 39; refine C0.out.mono ?_; clear C0; rintro e w1 ⟨rfl, rfl⟩) | (go_at_call 39; refine C1.out.mono ?_; clear C1; rintro e w1 ⟨rfl, rfl⟩))
      go_ret
      exact ⟨rfl, rfl⟩
    | true =>
      cases r2 : cont bs (i + 3) 128 191 with
      | false =>
        have C0 := Lib.hid (cont_any b o cap bs ((i : Int) + 1) (i + 1) 128 143 w (by omega) H.out (by omega) (by omega))
        rw [r0] at C0
        have C1 := Lib.hid (cont_any b o cap bs ((i : Int) + 2) (i + 2) 128 191 w (by omega) H.out (by omega) (by omega))
        rw [r1] at C1
        have C2 := Lib.hid (cont_any b o cap bs ((i : Int) + 3) (i + 3) 128 191 w (by omega) H.out (by omega) (by omega))
        rw [r2] at C2
        have E : valid bs i = false := by simp [e, r0, r1, r2]
        rw [E]
        clear E e r0 r1 r2
        go_enter Tryf.func33, Tryf.ntmps33
        go_big_wp2_with (first | (go_at_call 39; refine C0.out.mono ?_; clear C0; rintro e w1 ⟨rfl, rfl⟩) | (go_at_call 39; refine C1.out.mono ?_; clear C1; rintro e w1 ⟨rfl, rfl⟩) | (go_at_call 39; refine C2.out.mono ?_; clear C2; rintro e w1 ⟨rfl, rfl⟩))
        go_ret
        exact ⟨rfl, rfl⟩
      | true =>
        have C0 := Lib.hid (cont_any b o cap bs ((i : Int) + 1) (i + 1) 128 143 w (by omega) H.out (by omega) (by omega))
        rw [r0] at C0
        have C1 := Lib.hid (cont_any b o cap bs ((i : Int) + 2) (i + 2) 128 191 w (by omega) H.out (by omega) (by omega))
        rw [r1] at C1
        have C2 := Lib.hid (cont_any b o cap bs ((i : Int) + 3) (i + 3) 128 191 w (by omega) H.out (by omega) (by omega))
        rw [r2] at C2
        have E : valid bs i = true := by simp [e, r0, r1, r2]
        rw [E]
        clear E e r0 r1 r2
        go_enter Tryf.func33, Tryf.ntmps33
        go_big_wp2_with (first | (go_at_call 39; refine C0.out.mono ?_; clear C0; rintro e w1 ⟨rfl, rfl⟩) | (go_at_call 39; refine C1.out.mono ?_; clear C1; rintro e w1 ⟨rfl, rfl⟩) | (go_at_call 39; refine C2.out.mono ?_; clear C2; rintro e w1 ⟨rfl, rfl⟩))
        go_ret
        exact ⟨rfl, rfl⟩
set_option maxHeartbeats 2000000 in
set_option maxRecDepth 20000 in
theorem valid_7 (b o cap : Nat) (bs : List UInt8) (i c : Nat) (w : World) (hi : i < bs.length) (hn : bs.length ≤ 2000000) (h : Row w b o cap bs) (hcc : bt bs i = c) (hk : c < 194) :
    Calls Tryf.prog 33 #[.slice (some ⟨b, o, none⟩) bs.length cap, .int .i64 i] w fun e w' => e = .returned (.bool (valid bs i)) ∧ w = w' := by
  have H := Lib.hid h
  have ci := h i hi
  have hi' : (i : Int) < (bs.length : Int) := by omega
  clear h
  have hv : valid bs i = validC c fun k lo hi => cont bs (i + k) lo hi := by unfold valid; rw [hcc]
  have hc : c < 256 := by rw [← hcc]; exact bt_lt bs i
  rw [hcc] at ci
  clear hcc
  have t0 : decide ((194 : Int) ≤ (c : Int)) = false := decide_eq_false (by omega)
  have t1 : ((c : Int) == 224) = false := by simp; omega
  have t2 : ((c : Int) == 237) = false := by simp; omega
  have t3 : decide ((225 : Int) ≤ (c : Int)) = false := decide_eq_false (by omega)
  have t4 : ((c : Int) == 240) = false := by simp; omega
  have t5 : decide ((241 : Int) ≤ (c : Int)) = false := decide_eq_false (by omega)
  have t6 : ((c : Int) == 244) = false := by simp; omega
  have e : valid bs i = false := by rw [hv]; unfold validC; rw [if_neg (by omega), if_neg (by omega), if_neg (by omega), if_neg (by omega), if_neg (by omega), if_neg (by omega), if_neg (by omega)]
  rw [e]
  clear e hv
  go_enter Tryf.func33, Tryf.ntmps33
  go_big_wp2_with fail
  go_ret
  exact ⟨rfl, rfl⟩
set_option maxHeartbeats 2000000 in
set_option maxRecDepth 20000 in
theorem valid_8 (b o cap : Nat) (bs : List UInt8) (i c : Nat) (w : World) (hi : i < bs.length) (hn : bs.length ≤ 2000000) (h : Row w b o cap bs) (hcc : bt bs i = c) (hk : 244 < c) :
    Calls Tryf.prog 33 #[.slice (some ⟨b, o, none⟩) bs.length cap, .int .i64 i] w fun e w' => e = .returned (.bool (valid bs i)) ∧ w = w' := by
  have H := Lib.hid h
  have ci := h i hi
  have hi' : (i : Int) < (bs.length : Int) := by omega
  clear h
  have hv : valid bs i = validC c fun k lo hi => cont bs (i + k) lo hi := by unfold valid; rw [hcc]
  have hc : c < 256 := by rw [← hcc]; exact bt_lt bs i
  rw [hcc] at ci
  clear hcc
  have t0 : decide ((194 : Int) ≤ (c : Int)) = true := decide_eq_true (by omega)
  have t1 : decide ((c : Int) ≤ 223) = false := decide_eq_false (by omega)
  have t2 : ((c : Int) == 224) = false := by simp; omega
  have t3 : ((c : Int) == 237) = false := by simp; omega
  have t4 : decide ((225 : Int) ≤ (c : Int)) = true := decide_eq_true (by omega)
  have t5 : decide ((c : Int) ≤ 239) = false := decide_eq_false (by omega)
  have t6 : ((c : Int) == 240) = false := by simp; omega
  have t7 : decide ((241 : Int) ≤ (c : Int)) = true := decide_eq_true (by omega)
  have t8 : decide ((c : Int) ≤ 243) = false := decide_eq_false (by omega)
  have t9 : ((c : Int) == 244) = false := by simp; omega
  have e : valid bs i = false := by rw [hv]; unfold validC; rw [if_neg (by omega), if_neg (by omega), if_neg (by omega), if_neg (by omega), if_neg (by omega), if_neg (by omega), if_neg (by omega)]
  rw [e]
  clear e hv
  go_enter Tryf.func33, Tryf.ntmps33
  go_big_wp2_with fail
  go_ret
  exact ⟨rfl, rfl⟩
theorem valid_any (b o cap : Nat) (bs : List UInt8) (i : Nat) (w : World) (hi : i < bs.length) (hn : bs.length ≤ 2000000) (h : Row w b o cap bs) :
    Calls Tryf.prog 33 #[.slice (some ⟨b, o, none⟩) bs.length cap, .int .i64 i] w fun e w' => e = .returned (.bool (valid bs i)) ∧ w = w' := by
  obtain ⟨c, hc⟩ : ∃ c, bt bs i = c := ⟨_, rfl⟩
  have hcl : (194 ≤ c ∧ c ≤ 223) ∨ (c = 224) ∨ (c = 237) ∨ (225 ≤ c ∧ c ≤ 239 ∧ c ≠ 237) ∨ (c = 240) ∨ (241 ≤ c ∧ c ≤ 243) ∨ (c = 244) ∨ c < 194 ∨ 244 < c := by omega
  rcases hcl with h0 | h1 | h2 | h3 | h4 | h5 | h6 | h7 | h8
  · exact valid_0 b o cap bs i c w hi hn h hc h0
  · exact valid_1 b o cap bs i c w hi hn h hc h1
  · exact valid_2 b o cap bs i c w hi hn h hc h2
  · exact valid_3 b o cap bs i c w hi hn h hc h3
  · exact valid_4 b o cap bs i c w hi hn h hc h4
  · exact valid_5 b o cap bs i c w hi hn h hc h5
  · exact valid_6 b o cap bs i c w hi hn h hc h6
  · exact valid_7 b o cap bs i c w hi hn h hc h7
  · exact valid_8 b o cap bs i c w hi hn h hc h8
end Go.Proofs.YtcaolpebjpilgaaFmt.Init
