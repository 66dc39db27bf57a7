/-
  Proved: zzOneGroup answers true at one group with the asked number of pairs.
  Conditions: at most 2^31 bytes.
-/
import Derived.Test.YtpniflbleihdoaaDoorBPlain
namespace Go.Proofs.YtpniflbleihdoaaDoor.Bin
open Go.ChangeShapes Go.WideShapes Go.ChangeAt Go.RowKit Core
set_option linter.unusedVariables false

theorem dl_next (l : List UInt8) {i : Nat} (h : i < l.length) : dl (l.take (i + 1)) = dl (l.take i) + step l[i] ∧ op (l.take (i + 1)) = op (l.take i) + (if l[i] = 40 then 1 else 0) := by
  rw [List.take_succ_eq_append_getElem h, dl_append, op_append]
  refine ⟨?_, ?_⟩
  · simp [dl]
  · simp [op]
theorem step_b (c : UInt8) : -1 ≤ step c ∧ step c ≤ 1 := by
  unfold step
  split
  · omega
  · split <;> omega
theorem dl_b (l : List UInt8) : ∀ i : Nat, -(i : Int) ≤ dl (l.take i) ∧ dl (l.take i) ≤ i ∧ op (l.take i) ≤ i
  | 0 => by simp [dl, op]
  | i + 1 => by
    by_cases h : i < l.length
    · have h1 := dl_b l i
      have h2 := dl_next l h
      have h3 := step_b l[i]
      rw [h2.1, h2.2]
      split <;> omega
    · rw [List.take_of_length_le (by omega)]
      have := dl_b l i
      rw [List.take_of_length_le (by omega)] at this
      omega
theorem getB (s : ByteArray) {i : Nat} (h : i < s.size) : s[i]'h = s.data.toList[i]'(by simpa using h) := by
  show s.data[i]'_ = _
  simp

set_option maxHeartbeats 2000000 in
set_option maxRecDepth 20000 in
theorem group_any (s : ByteArray) (k : Nat) (w : World) (h : Grp s.data.toList k) (hs : s.size ≤ 2147483648) :
    Calls Tryd.prog 19 #[.string s, .int .i64 k] w fun e w' => e = .returned (.bool true) ∧ w = w' := by
  have hl : s.data.toList.length = s.size := by simp
  obtain ⟨f1, f2, f3, f4, f5, f6⟩ := h.facts
  rw [hl] at f1 f3 f6
  have b0 : 0 < s.size := by omega
  have b1 : s.size - 1 < s.size := by omega
  have c0 : (s[0]'b0).toNat = 40 := by rw [getB s b0]; rw [List.getD_eq_getElem?_getD, List.getElem?_eq_getElem (by omega)] at f2; simp at f2; simp [f2]
  have c1 : (s[s.size - 1]'b1).toNat = 41 := by rw [getB s b1]; rw [List.getD_eq_getElem?_getD, List.getElem?_eq_getElem (by omega)] at f3; simp at f3; simp [f3]
  have i1 : (s.size : Int) - 1 = ((s.size - 1 : Nat) : Int) := by omega
  have d0 : decide ((s.size : Int) < 2) = false := decide_eq_false (by omega)
  have b0' : (0 : Int) < (s.size : Int) := by omega
  have b1' : ((s.size - 1 : Nat) : Int) < (s.size : Int) := by omega
  have F4 := Lib.hid f4
  have F5 := Lib.hid f5
  have F6 := Lib.hid f6
  have HL := Lib.hid hl
  clear f1 f2 f3 f4 f5 f6 hl h
  go_enter Tryd.func19, Tryd.ntmps19
  go_wp2_with fail
  go_loop [5, 6, 7] (fun vd vo vi => ∃ (i : Nat) (D : Int) (O : Nat), i ≤ s.size ∧ vi = .int .i64 i ∧ vd = .int .i64 D ∧ vo = .int .i64 O ∧ Hid (D = dl (s.data.toList.take i)) ∧ Hid (O = op (s.data.toList.take i)) ∧ -(i : Int) ≤ D ∧ D ≤ i ∧ O ≤ i) (fun _ _ vi => s.size - (intOf vi).toNat)
  case atStart => exact ⟨0, 0, 0, by omega, rfl, rfl, rfl, Lib.hid rfl, Lib.hid rfl, by omega, by omega, by omega⟩
  case round =>
    obtain ⟨i, D, O, hi, rfl, rfl, rfl, HD, HO, r1, r2, r3⟩ := hrel
    by_cases hlt : i < s.size
    · have hlt' : (i : Int) < (s.size : Int) := by omega
      have hll : i < s.data.toList.length := by have := HL.out; omega
      obtain ⟨n1, n2⟩ := dl_next s.data.toList hll
      rw [← getB s hlt, ← HD.out] at n1
      rw [← getB s hlt, ← HO.out] at n2
      have hb := dl_b s.data.toList (i + 1)
      have hpos : i + 1 < s.size → 0 < dl (s.data.toList.take (i + 1)) := fun h => F6.out (i + 1) (by omega) h
      have hend : i + 1 = s.size → dl (s.data.toList.take (i + 1)) = 0 := fun h => by
        have := F4.out
        rw [List.take_of_length_le (by have := HL.out; omega)]
        exact this
      obtain ⟨D2, hD2⟩ : ∃ D2, D2 = dl (s.data.toList.take (i + 1)) := ⟨_, rfl⟩
      obtain ⟨O2, hO2⟩ : ∃ O2, O2 = op (s.data.toList.take (i + 1)) := ⟨_, rfl⟩
      rw [← hD2] at n1 hb hpos hend
      rw [← hO2] at n2 hb
      have DX := Lib.hid hD2
      have OX := Lib.hid hO2
      clear hD2 hO2
      unfold step at n1
      have hcase : ((s[i]'hlt).toNat = 40 ∧ D2 = D + 1 ∧ O2 = O + 1) ∨ ((s[i]'hlt).toNat = 41 ∧ D2 = D - 1 ∧ O2 = O) ∨ ((s[i]'hlt).toNat ≠ 40 ∧ (s[i]'hlt).toNat ≠ 41 ∧ D2 = D ∧ O2 = O) := by
        by_cases q1 : s[i]'hlt = 40
        · rw [if_pos q1] at n1 n2
          exact .inl ⟨by rw [q1]; rfl, n1, n2⟩
        · rw [if_neg q1] at n1 n2
          have q1' : (s[i]'hlt).toNat ≠ 40 := fun e => q1 (UInt8.toNat_inj.1 e)
          by_cases q2 : s[i]'hlt = 41
          · rw [if_pos q2] at n1
            exact .inr (.inl ⟨by rw [q2]; rfl, by omega, by omega⟩)
          · rw [if_neg q2] at n1
            exact .inr (.inr ⟨q1', fun e => q2 (UInt8.toNat_inj.1 e), by omega, by omega⟩)
      clear n1 n2
      have HP := Lib.hid hpos
      have HE := Lib.hid hend
      clear hpos hend
      by_cases hlast : i + 1 < s.size
      · have hp := HP.out hlast
        rcases hcase with ⟨q, hD, hO⟩ | ⟨q, hD, hO⟩ | ⟨q, q', hD, hO⟩
        · have t1 : (((s[i]'hlt).toNat : Int) == 40) = true := by rw [beq_iff_eq]; omega
          have t3 : decide (D + 1 < 0) = false := decide_eq_false (by omega)
          have t4 : ((D + 1 : Int) == 0) = false := by rw [beq_eq_false_iff_ne]; omega
          go_wp2_with fail
          go_round
          case rel => exact ⟨i + 1, D + 1, (O + 1), by omega, by go_num, rfl, by go_num, Lib.hid (by have := DX.out; omega), Lib.hid (by have := OX.out; omega), by omega, by omega, by omega⟩
          case measure => simp [intOf]; omega
        · have t1 : (((s[i]'hlt).toNat : Int) == 40) = false := by rw [beq_eq_false_iff_ne]; omega
          have t2 : (((s[i]'hlt).toNat : Int) == 41) = true := by rw [beq_iff_eq]; omega
          have t3 : decide (D - 1 < 0) = false := decide_eq_false (by omega)
          have t4 : ((D - 1 : Int) == 0) = false := by rw [beq_eq_false_iff_ne]; omega
          go_wp2_with fail
          go_round
          case rel => exact ⟨i + 1, D - 1, O, by omega, by go_num, rfl, by go_num, Lib.hid (by have := DX.out; omega), Lib.hid (by have := OX.out; omega), by omega, by omega, by omega⟩
          case measure => simp [intOf]; omega
        · have t1 : (((s[i]'hlt).toNat : Int) == 40) = false := by rw [beq_eq_false_iff_ne]; omega
          have t2 : (((s[i]'hlt).toNat : Int) == 41) = false := by rw [beq_eq_false_iff_ne]; omega
          have t3 : decide (D < 0) = false := decide_eq_false (by omega)
          have t4 : ((D : Int) == 0) = false := by rw [beq_eq_false_iff_ne]; omega
          go_wp2_with fail
          go_round
          case rel => exact ⟨i + 1, D, O, by omega, by go_num, rfl, by go_num, Lib.hid (by have := DX.out; omega), Lib.hid (by have := OX.out; omega), by omega, by omega, by omega⟩
          case measure => simp [intOf]; omega
      · have hp := HE.out (by omega)
        have hlast' : (i : Int) = ((s.size - 1 : Nat) : Int) := by omega
        have dl1 : ((i : Int) != ((s.size - 1 : Nat) : Int)) = false := by rw [bne_eq_false_iff_eq]; exact hlast'
        clear hlast'
        rcases hcase with ⟨q, hD, hO⟩ | ⟨q, hD, hO⟩ | ⟨q, q', hD, hO⟩
        · have t1 : (((s[i]'hlt).toNat : Int) == 40) = true := by rw [beq_iff_eq]; omega
          have t3 : decide (D + 1 < 0) = false := decide_eq_false (by omega)
          have t4 : ((D + 1 : Int) == 0) = true := by rw [beq_iff_eq]; omega
          go_wp2_with fail
          go_round
          case rel => exact ⟨i + 1, D + 1, (O + 1), by omega, by go_num, rfl, by go_num, Lib.hid (by have := DX.out; omega), Lib.hid (by have := OX.out; omega), by omega, by omega, by omega⟩
          case measure => simp [intOf]; omega
        · have t1 : (((s[i]'hlt).toNat : Int) == 40) = false := by rw [beq_eq_false_iff_ne]; omega
          have t2 : (((s[i]'hlt).toNat : Int) == 41) = true := by rw [beq_iff_eq]; omega
          have t3 : decide (D - 1 < 0) = false := decide_eq_false (by omega)
          have t4 : ((D - 1 : Int) == 0) = true := by rw [beq_iff_eq]; omega
          go_wp2_with fail
          go_round
          case rel => exact ⟨i + 1, D - 1, O, by omega, by go_num, rfl, by go_num, Lib.hid (by have := DX.out; omega), Lib.hid (by have := OX.out; omega), by omega, by omega, by omega⟩
          case measure => simp [intOf]; omega
        · have t1 : (((s[i]'hlt).toNat : Int) == 40) = false := by rw [beq_eq_false_iff_ne]; omega
          have t2 : (((s[i]'hlt).toNat : Int) == 41) = false := by rw [beq_eq_false_iff_ne]; omega
          have t3 : decide (D < 0) = false := decide_eq_false (by omega)
          have t4 : ((D : Int) == 0) = true := by rw [beq_iff_eq]; omega
          go_wp2_with fail
          go_round
          case rel => exact ⟨i + 1, D, O, by omega, by go_num, rfl, by go_num, Lib.hid (by have := DX.out; omega), Lib.hid (by have := OX.out; omega), by omega, by omega, by omega⟩
          case measure => simp [intOf]; omega
    · have hlt' : ¬ (i : Int) < (s.size : Int) := by omega
      have : i = s.size := by omega
      subst this
      have e1 : D = 0 := by have h1 := HD.out; rw [List.take_of_length_le (by have := HL.out; omega)] at h1; have := F4.out; omega
      have e2 : O = k := by have h1 := HO.out; rw [List.take_of_length_le (by have := HL.out; omega)] at h1; have := F5.out; omega
      subst e1 e2
      have e3 : ((O : Int) == (O : Int)) = true := by simp
      go_wp2_with fail
      go_ret
      exact ⟨by first | rfl | simp, rfl⟩
end Go.Proofs.YtpniflbleihdoaaDoor.Bin
