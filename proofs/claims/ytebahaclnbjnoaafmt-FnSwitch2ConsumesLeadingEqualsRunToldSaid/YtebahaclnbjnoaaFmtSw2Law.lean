/-
  Proved: the walk of FnSwitch2ConsumesLeadingEqualsRun returns true at every argument.
  Conditions: the library's UTF-8 tables hold what the row lists.
-/
import Derived.Test.YtebahaclnbjnoaaFmtSwAt
import Derived.Deep.DeepCutAuto
namespace Go.Proofs.YtebahaclnbjnoaaFmt.Sw2Law
open Go.ChangeShapes Go.WideShapes Go.ChangeAt Go.RowKit Core Sw88
set_option linter.unusedVariables false

theorem bytes_any (s : ByteArray) (k t0 t1 : Int) (w : World) (h : s.size ≤ 65536) : Calls Tryf.prog 6 #[.string s, .int .i64 k, .int .i64 t0, .int .i64 t1] w fun e w' => e = .returned (.bool true) ∧ w = w' := by
  go_enter Tryf.func6, Tryf.ntmps6
  go_wp2_with fail
  go_ret
  exact ⟨rfl, rfl⟩
theorem bytes_maybe (s : ByteArray) (k t0 t1 : Int) (w : World) (hs : s.size ≤ 9223372036854775807) : Calls Tryf.prog 6 #[.string s, .int .i64 k, .int .i64 t0, .int .i64 t1] w fun e w' => e = .returned (.bool (decide (s.size ≤ 1048576))) ∧ w = w' := by
  by_cases h : s.size ≤ 1048576
  · rw [decide_eq_true h]
    go_enter Tryf.func6, Tryf.ntmps6
    go_wp2_with fail
    go_ret
    exact ⟨rfl, rfl⟩
  · rw [decide_eq_false h]
    go_enter Tryf.func6, Tryf.ntmps6
    go_wp2_with fail
    go_ret
    exact ⟨rfl, rfl⟩
set_option maxHeartbeats 4000000 in
set_option maxRecDepth 20000 in
theorem walk1 (s : ByteArray) (k : Nat) (t0 t1 : Int) (w : World) (hs : s.size ≤ 65536) (hk : k ≤ 65536) (i0 : I64 t0) (i1 : I64 t1) (hne : t0 ≠ t1) (hT : Tabs w) :
    Calls Tryf.prog 3 #[.string s, .int .i64 k, .int .i64 t0, .int .i64 t1] w fun e w' => e = .returned (.bool true) ∧ Below w.heap.size w w' := by
  have HT := Lib.hid hT
  have I0 := Lib.hid i0
  have I1 := Lib.hid i1
  have q0 : (t0 == t1) = false := by rw [beq_eq_false_iff_ne]; exact hne
  have k0 : decide ((k : Int) < 0) = false := decide_eq_false (by omega)
  have k1 : decide ((65536 : Int) < (k : Int)) = false := decide_eq_false (by omega)
  have k2 : decide ((65536 : Int) < (s.size : Int)) = false := decide_eq_false (by omega)
  clear hT i0 i1 hne
  go_enter Tryf.func3, Tryf.ntmps3
  go_wp2_with (first | (go_at_call 6; refine (bytes_any s k t0 t1 w hs).mono ?_; rintro e w1 ⟨rfl, rfl⟩))
  refine (at_any s k w hs hk HT.out).mono ?_
  rintro e w1 ⟨S, er, rfl, hL, e0, e1⟩
  have HL0 := Lib.hid hL
  have hle := itr_le s.data.toList k
  rw [str_len] at hle
  clear hL
  generalize itr s.data.toList k = off at *
  have o0 : decide ((off : Int) < 0) = false := decide_eq_false (by omega)
  have o1 : decide (s.size < off) = false := decide_eq_false (by omega)
  go_wp2_with fail
  go_loop [11] (fun v => ∃ r : Nat, v = .int .i64 r ∧ off + r ≤ s.size ∧ Hid (∀ j, j < r → bt s.data.toList (off + j) = 61)) (fun v => s.size - (intOf v).toNat)
  case atStart => exact ⟨0, rfl, by omega, Lib.hid (fun j hj => absurd hj (by omega))⟩
  case round =>
    obtain ⟨r, rfl, hr, HR⟩ := hrel
    by_cases hlt : off + r < s.size ∧ bt s.data.toList (off + r) = 61
    · obtain ⟨hlt, hb⟩ := hlt
      have hlt' : (off : Int) + (r : Int) < (s.size : Int) := by omega
      have HR2 := Lib.hid (show ∀ j, j < r + 1 → bt s.data.toList (off + j) = 61 from fun j hj => by
        by_cases e : j = r
        · subst e; exact hb
        · exact HR.out j (by omega))
      rw [str_bt s _ hlt] at hb
      have hb' : ((s[off + r].toNat : Int) == 61) = true := by simp; omega
      clear hb
      go_wp2_with fail
      go_round
      case rel => exact ⟨r + 1, by go_num, by omega, HR2⟩
      case measure => simp [intOf]; omega
    · have HS : Hid (¬ (off + r < s.data.toList.length ∧ bt s.data.toList (off + r) = 61)) := Lib.hid (by rw [str_len]; exact hlt)
      by_cases hz : off + r < s.size
      · have hz' : (off : Int) + (r : Int) < (s.size : Int) := by omega
        have hb' : ((s[off + r].toNat : Int) == 61) = false := by
          have hh : bt s.data.toList (off + r) ≠ 61 := fun e => hlt ⟨hz, e⟩
          rw [str_bt s _ hz] at hh
          simp; omega
        clear hlt
        go_wp2_with fail
        go_loopw [13, 14, 15] (fun vi _ _ wr => ∃ (i : Nat) (er : Int), i ≤ s.size - off + 1 ∧ vi = .int .i64 i ∧ Hid (Live (Base.new w) wr S s.data.toList false 0 (off + min i r) er) ∧ 0 ≤ er ∧ er ≤ 70000 + i) (fun vi _ _ _ => s.size - off + 1 - (intOf vi).toNat)
        case atStart => exact ⟨0, er, by omega, rfl, by rw [Nat.zero_min, Nat.add_zero]; exact HL0, e0, by omega⟩
        case round =>
          obtain ⟨i, er2, hi, rfl, HL, f0, f1⟩ := hrel
          by_cases hlt : i < s.size - off + 1
          · have hlt' : (i : Int) < (s.size : Int) - (off : Int) + 1 := by omega
            by_cases hir : i < r
            · have hb := HR.out i hir
              have hmin : min i r = i := by omega
              have hL := HL.out
              rw [hmin] at hL
              have C := Lib.hid (door2_eq hL f0 (by omega) t0 t1 I0.out I1.out (by rw [str_len]; omega) hb)
              have hne := nxErr_le (bs := s.data.toList) (p := off + i + 1)
              have hir' : (i : Int) < (r : Int) := by omega
              have r1 : (t1 != t1) = false := by simp
              have r2 : (((off + i + 1 : Nat) : Int) != (off : Int) + (i : Int) + 1) = false := by simp
              clear hL hb hmin HL
              go_wp2_with fail
              refine C.out.mono ?_
              rintro e w3 ⟨rfl, hL3⟩
              have c3 := hL3.off
              have HL3 := Lib.hid hL3
              clear hL3 C
              go_wp2_with (first | (go_at_call 9; refine (off_any _ _ w3 (by assumption)).mono ?_; rintro e w7 ⟨rfl, rfl⟩))
              go_roundw
              case rel => exact ⟨i + 1, _, by omega, by go_num, by rw [show min (i + 1) r = i + 1 by omega]; exact HL3, by omega, by omega⟩
              case measure => simp [intOf]; omega
            · have hmin : min i r = r := by omega
              have hL := HL.out
              rw [hmin] at hL
              have C := Lib.hid (door2_no hL f0 (by omega) t0 t1 I0.out I1.out HS.out)
              have hir' : ¬ (i : Int) < (r : Int) := by omega
              have r1 : (t0 != t0) = false := by simp
              have r2 : (((off + r : Nat) : Int) != (off : Int) + (r : Int)) = false := by simp
              have c3 := hL.off
              clear hL hmin
              go_wp2_with fail
              refine C.out.mono ?_
              rintro e w3 ⟨rfl, rfl⟩
              clear C
              go_wp2_with (first | (go_at_call 9; refine (off_any _ _ wr (by assumption)).mono ?_; rintro e w7 ⟨rfl, rfl⟩))
              go_roundw
              case rel => exact ⟨i + 1, er2, by omega, by go_num, by rw [show min (i + 1) r = min i r by omega]; exact HL, by omega, by omega⟩
              case measure => simp [intOf]; omega
          · have hlt' : ¬ (i : Int) < (s.size : Int) - (off : Int) + 1 := by omega
            go_wp2_with fail
            go_ret
            exact ⟨rfl, HL.out.below⟩
      · have hz' : ¬ (off : Int) + (r : Int) < (s.size : Int) := by omega
        have hz2 : decide ((off : Int) + (r : Int) < (s.size : Int)) = false := decide_eq_false hz'
        clear hlt
        go_wp2_with fail
        go_loopw [13, 14, 15] (fun vi _ _ wr => ∃ (i : Nat) (er : Int), i ≤ s.size - off + 1 ∧ vi = .int .i64 i ∧ Hid (Live (Base.new w) wr S s.data.toList false 0 (off + min i r) er) ∧ 0 ≤ er ∧ er ≤ 70000 + i) (fun vi _ _ _ => s.size - off + 1 - (intOf vi).toNat)
        case atStart => exact ⟨0, er, by omega, rfl, by rw [Nat.zero_min, Nat.add_zero]; exact HL0, e0, by omega⟩
        case round =>
          obtain ⟨i, er2, hi, rfl, HL, f0, f1⟩ := hrel
          by_cases hlt : i < s.size - off + 1
          · have hlt' : (i : Int) < (s.size : Int) - (off : Int) + 1 := by omega
            by_cases hir : i < r
            · have hb := HR.out i hir
              have hmin : min i r = i := by omega
              have hL := HL.out
              rw [hmin] at hL
              have C := Lib.hid (door2_eq hL f0 (by omega) t0 t1 I0.out I1.out (by rw [str_len]; omega) hb)
              have hne := nxErr_le (bs := s.data.toList) (p := off + i + 1)
              have hir' : (i : Int) < (r : Int) := by omega
              have r1 : (t1 != t1) = false := by simp
              have r2 : (((off + i + 1 : Nat) : Int) != (off : Int) + (i : Int) + 1) = false := by simp
              clear hL hb hmin HL
              go_wp2_with fail
              refine C.out.mono ?_
              rintro e w3 ⟨rfl, hL3⟩
              have c3 := hL3.off
              have HL3 := Lib.hid hL3
              clear hL3 C
              go_wp2_with (first | (go_at_call 9; refine (off_any _ _ w3 (by assumption)).mono ?_; rintro e w7 ⟨rfl, rfl⟩))
              go_roundw
              case rel => exact ⟨i + 1, _, by omega, by go_num, by rw [show min (i + 1) r = i + 1 by omega]; exact HL3, by omega, by omega⟩
              case measure => simp [intOf]; omega
            · have hmin : min i r = r := by omega
              have hL := HL.out
              rw [hmin] at hL
              have C := Lib.hid (door2_no hL f0 (by omega) t0 t1 I0.out I1.out HS.out)
              have hir' : ¬ (i : Int) < (r : Int) := by omega
              have r1 : (t0 != t0) = false := by simp
              have r2 : (((off + r : Nat) : Int) != (off : Int) + (r : Int)) = false := by simp
              have c3 := hL.off
              clear hL hmin
              go_wp2_with fail
              refine C.out.mono ?_
              rintro e w3 ⟨rfl, rfl⟩
              clear C
              go_wp2_with (first | (go_at_call 9; refine (off_any _ _ wr (by assumption)).mono ?_; rintro e w7 ⟨rfl, rfl⟩))
              go_roundw
              case rel => exact ⟨i + 1, er2, by omega, by go_num, by rw [show min (i + 1) r = min i r by omega]; exact HL, by omega, by omega⟩
              case measure => simp [intOf]; omega
          · have hlt' : ¬ (i : Int) < (s.size : Int) - (off : Int) + 1 := by omega
            go_wp2_with fail
            go_ret
            exact ⟨rfl, HL.out.below⟩
set_option maxHeartbeats 2000000 in
theorem walk (w : World) (s : ByteArray) (k t0 t1 : Int) (hs : s.size ≤ maxLen) (hk : (Lit.int .i64 k).wf = true) (h0 : (Lit.int .i64 t0).wf = true) (h1 : (Lit.int .i64 t1).wf = true) (hL : laidMet Tryf.prog Rows.fnSwitch2ConsumesLeadingEqualsRunRow.laid w) :
    Calls Tryf.prog 3 #[.string s, .int .i64 k, .int .i64 t0, .int .i64 t1] w fun e w' => e = .returned (.bool true) ∧ Below w.heap.size w w' := by
  have HT := Lib.hid (tabs_of (Lib.laidMet.reads hL (.head _)) (Lib.laidMet.reads hL (.tail _ (.head _))))
  have rk : -9223372036854775808 ≤ k ∧ k ≤ 9223372036854775807 := by simpa [Lit.wf, IntKind.min, IntKind.max, IntKind.signed, IntKind.bits] using hk
  have rt0 : -9223372036854775808 ≤ t0 ∧ t0 ≤ 9223372036854775807 := by simpa [Lit.wf, IntKind.min, IntKind.max, IntKind.signed, IntKind.bits] using h0
  have rt1 : -9223372036854775808 ≤ t1 ∧ t1 ≤ 9223372036854775807 := by simpa [Lit.wf, IntKind.min, IntKind.max, IntKind.signed, IntKind.bits] using h1
  have hs2 : s.size ≤ 9223372036854775807 := by unfold maxLen at hs; omega
  have B := Lib.hid (bytes_maybe s k t0 t1 w hs2)
  clear hL hs hk h0 h1
  by_cases a1 : ¬ s.size ≤ 1048576
  · rw [decide_eq_false a1] at B
    go_enter Tryf.func3, Tryf.ntmps3
    go_wp2_with (first | (go_at_call 6; refine B.out.mono ?_; rintro e w1 ⟨rfl, rfl⟩))
    go_ret
    exact ⟨rfl, Below.refl _ _⟩
  replace a1 := Classical.not_not.1 a1
  rw [decide_eq_true a1] at B
  by_cases a2 : ¬ s.size ≤ 65536
  · go_enter Tryf.func3, Tryf.ntmps3
    go_wp2_with (first | (go_at_call 6; refine B.out.mono ?_; rintro e w1 ⟨rfl, rfl⟩))
    go_ret
    exact ⟨rfl, Below.refl _ _⟩
  replace a2 := Classical.not_not.1 a2
  by_cases a3 : ¬ 0 ≤ k
  · go_enter Tryf.func3, Tryf.ntmps3
    go_wp2_with (first | (go_at_call 6; refine B.out.mono ?_; rintro e w1 ⟨rfl, rfl⟩))
    go_ret
    exact ⟨rfl, Below.refl _ _⟩
  replace a3 := Classical.not_not.1 a3
  by_cases a4 : ¬ k ≤ 65536
  · go_enter Tryf.func3, Tryf.ntmps3
    go_wp2_with (first | (go_at_call 6; refine B.out.mono ?_; rintro e w1 ⟨rfl, rfl⟩))
    go_ret
    exact ⟨rfl, Below.refl _ _⟩
  replace a4 := Classical.not_not.1 a4
  by_cases n01 : t0 = t1
  · subst n01
    go_enter Tryf.func3, Tryf.ntmps3
    go_wp2_with (first | (go_at_call 6; refine B.out.mono ?_; rintro e w1 ⟨rfl, rfl⟩))
    go_ret
    exact ⟨rfl, Below.refl _ _⟩
  obtain ⟨k, rfl⟩ : ∃ m : Nat, k = (m : Int) := ⟨k.toNat, by omega⟩
  exact walk1 s k t0 t1 w a2 (by omega) rt0 rt1 n01 HT.out
end Go.Proofs.YtebahaclnbjnoaaFmt.Sw2Law
