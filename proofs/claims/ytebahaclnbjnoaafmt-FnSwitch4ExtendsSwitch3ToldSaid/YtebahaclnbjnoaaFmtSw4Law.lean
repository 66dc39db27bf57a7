/-
  Proved: the walk of FnSwitch4ExtendsSwitch3 returns true at every argument.
  Conditions: the library's UTF-8 tables hold what the row lists.
-/
import Derived.Test.YtebahaclnbjnoaaFmtSwAt
namespace Go.Proofs.YtebahaclnbjnoaaFmt.Sw4Law
open Go.ChangeShapes Go.WideShapes Go.ChangeAt Go.RowKit Core Sw88
set_option linter.unusedVariables false

theorem bytes_yes (s : ByteArray) (k t0 t1 c t2 t3 : Int) (w : World) (hs : s.size ≤ 9223372036854775807) (h : s.size ≤ 1048576) : Calls Tryf.prog 12 #[.string s, .int .i64 k, .int .i64 t0, .int .i64 t1, .int .i32 c, .int .i64 t2, .int .i64 t3] w fun e w' => e = .returned (.bool true) ∧ w = w' := by
  go_enter Tryf.func12, Tryf.ntmps12
  go_wp2_with fail
  go_ret
  exact ⟨rfl, rfl⟩
theorem bytes_no (s : ByteArray) (k t0 t1 c t2 t3 : Int) (w : World) (hs : s.size ≤ 9223372036854775807) (h : ¬ s.size ≤ 1048576) : Calls Tryf.prog 12 #[.string s, .int .i64 k, .int .i64 t0, .int .i64 t1, .int .i32 c, .int .i64 t2, .int .i64 t3] w fun e w' => e = .returned (.bool false) ∧ w = w' := by
  go_enter Tryf.func12, Tryf.ntmps12
  go_wp2_with fail
  go_ret
  exact ⟨rfl, rfl⟩
set_option maxHeartbeats 4000000 in
set_option maxRecDepth 20000 in
theorem walk_eq (s : ByteArray) (k : Nat) (t0 t1 : Int) (c : Nat) (t2 t3 : Int) (w : World) (hs : s.size ≤ 65536) (hk : k ≤ 65536) (hc : c < 128) (i0 : I64 t0) (i1 : I64 t1) (i2 : I64 t2) (i3 : I64 t3) (n01 : t0 ≠ t1) (n02 : t0 ≠ t2) (n03 : t0 ≠ t3) (n12 : t1 ≠ t2) (n13 : t1 ≠ t3) (n23 : t2 ≠ t3) (hT : Tabs w) (hp : itr s.data.toList k < s.data.toList.length) (hb : bt s.data.toList (itr s.data.toList k) = 61) :
    Calls Tryf.prog 5 #[.string s, .int .i64 k, .int .i64 t0, .int .i64 t1, .int .i32 c, .int .i64 t2, .int .i64 t3] w fun e w' => e = .returned (.bool true) ∧ Below w.heap.size w w' := by
  have HT := Lib.hid hT
  have I0 := Lib.hid i0
  have I1 := Lib.hid i1
  have I2 := Lib.hid i2
  have I3 := Lib.hid i3
  have q01 : (t0 == t1) = false := by rw [beq_eq_false_iff_ne]; exact n01
  have q10 : (t1 == t0) = false := by rw [beq_eq_false_iff_ne]; exact Ne.symm n01
  have q02 : (t0 == t2) = false := by rw [beq_eq_false_iff_ne]; exact n02
  have q20 : (t2 == t0) = false := by rw [beq_eq_false_iff_ne]; exact Ne.symm n02
  have q03 : (t0 == t3) = false := by rw [beq_eq_false_iff_ne]; exact n03
  have q30 : (t3 == t0) = false := by rw [beq_eq_false_iff_ne]; exact Ne.symm n03
  have q12 : (t1 == t2) = false := by rw [beq_eq_false_iff_ne]; exact n12
  have q21 : (t2 == t1) = false := by rw [beq_eq_false_iff_ne]; exact Ne.symm n12
  have q13 : (t1 == t3) = false := by rw [beq_eq_false_iff_ne]; exact n13
  have q31 : (t3 == t1) = false := by rw [beq_eq_false_iff_ne]; exact Ne.symm n13
  have q23 : (t2 == t3) = false := by rw [beq_eq_false_iff_ne]; exact n23
  have q32 : (t3 == t2) = false := by rw [beq_eq_false_iff_ne]; exact Ne.symm n23
  have r0 : (t0 == t0) = true := by simp
  have s0 : (t0 != t0) = false := by simp
  have r1 : (t1 == t1) = true := by simp
  have s1 : (t1 != t1) = false := by simp
  have r2 : (t2 == t2) = true := by simp
  have s2 : (t2 != t2) = false := by simp
  have r3 : (t3 == t3) = true := by simp
  have s3 : (t3 != t3) = false := by simp
  have HP := Lib.hid hp
  have HB := Lib.hid hb
  clear hp hb
  clear hT i0 i1 i2 i3 n01 n02 n03 n12 n13 n23
  go_enter Tryf.func5, Tryf.ntmps5
  go_wp2_with (first | (go_at_call 12; refine (bytes_yes s k t0 t1 c t2 t3 w (by omega) (by omega)).mono ?_; rintro e w1 ⟨rfl, rfl⟩))
  refine (at_any s k w hs hk HT.out).mono ?_
  rintro e w1 ⟨S2, er2, rfl, hL2, e20, e21⟩
  have HL2 := Lib.hid hL2
  have T1 := Lib.hid hL2.tabs
  have OW1 := Lib.hid hL2.only
  have hple := itr_le s.data.toList k
  rw [str_len] at hple
  clear hL2
  go_wp2_with fail
  refine (at_any s k w1 hs hk T1.out).mono ?_
  rintro e w2 ⟨S3, er3, rfl, hL3, e30, e31⟩
  have HL3 := Lib.hid hL3
  obtain ⟨F2, L2, hL2', hX2⟩ := HL2.out.focus hL3.below
  have HL2b := Lib.hid hL2'
  have HX2 := Lib.hid hX2
  have OO := Lib.hid (HL2.out.only.next hL3.only (by simp [Base.new]))
  clear hL3 hL2' hX2
  have C2 := Lib.hid (door3_eq HL2b.out e20 (by omega) t0 t1 c t2 I0.out I1.out I2.out HP.out HB.out)
  go_wp2_with fail
  refine C2.out.mono ?_
  rintro e w3 ⟨rfl, hL2c⟩
  have c3 := hL2c.off
  obtain ⟨F3, L3, hL3', hX3⟩ := HL3.out.moved hL2c.only (fun x hx => (HX2.out x hx).2) hL2c.tabs
  have HL3b := Lib.hid hL3'
  have HX3 := Lib.hid hX3
  have OO2 := Lib.hid (OO.out.next hL2c.only (fun x hx => .inr (HX2.out x hx).1))
  have z1 := Lib.hid (HL2.out.only.size)
  clear hL2c hL3' hX3 C2 HL2b HL3 HL2 OO
  have C3 := Lib.hid (door4_eq HL3b.out e30 (by omega) t0 t1 c t2 t3 I0.out I1.out I2.out I3.out HP.out HB.out)
  go_wp2_with (first | (go_at_call 9; refine (off_any S2 _ w3 c3).mono ?_; rintro e w4 ⟨rfl, rfl⟩))
  refine C3.out.mono ?_
  rintro e w5 ⟨rfl, hL3c⟩
  have d3 := hL3c.off
  have OO3 := Lib.hid (OO2.out.next hL3c.only (fun x hx => .inr (Nat.le_trans z1.out (HX3.out x hx).1)))
  clear hL3c
  clear C3 c3
  generalize itr s.data.toList k = p at *
  have x1 : (((p + 1 : Nat) : Int) == ((p + 1 : Nat) : Int)) = true := by simp
  have x2 : (((p + 1 : Nat) : Int) == (p : Int) + 1) = true := by simp
  go_wp2_with (first | (go_at_call 9; refine (off_any S3 _ w5 d3).mono ?_; rintro e w4 ⟨rfl, rfl⟩))
  go_ret
  exact ⟨by first | (simp; done) | (simp; omega), OO3.out.below (Nat.le_refl _) (by simp [Base.new])⟩
set_option maxHeartbeats 4000000 in
set_option maxRecDepth 20000 in
theorem walk_two (s : ByteArray) (k : Nat) (t0 t1 : Int) (c : Nat) (t2 t3 : Int) (w : World) (hs : s.size ≤ 65536) (hk : k ≤ 65536) (hc : c < 128) (i0 : I64 t0) (i1 : I64 t1) (i2 : I64 t2) (i3 : I64 t3) (n01 : t0 ≠ t1) (n02 : t0 ≠ t2) (n03 : t0 ≠ t3) (n12 : t1 ≠ t2) (n13 : t1 ≠ t3) (n23 : t2 ≠ t3) (hT : Tabs w) (hp : itr s.data.toList k < s.data.toList.length) (hb : bt s.data.toList (itr s.data.toList k) = c) (hne : c ≠ 61) (hb2 : ¬ (itr s.data.toList k + 1 < s.data.toList.length ∧ bt s.data.toList (itr s.data.toList k + 1) = 61)) :
    Calls Tryf.prog 5 #[.string s, .int .i64 k, .int .i64 t0, .int .i64 t1, .int .i32 c, .int .i64 t2, .int .i64 t3] w fun e w' => e = .returned (.bool true) ∧ Below w.heap.size w w' := by
  have HT := Lib.hid hT
  have I0 := Lib.hid i0
  have I1 := Lib.hid i1
  have I2 := Lib.hid i2
  have I3 := Lib.hid i3
  have q01 : (t0 == t1) = false := by rw [beq_eq_false_iff_ne]; exact n01
  have q10 : (t1 == t0) = false := by rw [beq_eq_false_iff_ne]; exact Ne.symm n01
  have q02 : (t0 == t2) = false := by rw [beq_eq_false_iff_ne]; exact n02
  have q20 : (t2 == t0) = false := by rw [beq_eq_false_iff_ne]; exact Ne.symm n02
  have q03 : (t0 == t3) = false := by rw [beq_eq_false_iff_ne]; exact n03
  have q30 : (t3 == t0) = false := by rw [beq_eq_false_iff_ne]; exact Ne.symm n03
  have q12 : (t1 == t2) = false := by rw [beq_eq_false_iff_ne]; exact n12
  have q21 : (t2 == t1) = false := by rw [beq_eq_false_iff_ne]; exact Ne.symm n12
  have q13 : (t1 == t3) = false := by rw [beq_eq_false_iff_ne]; exact n13
  have q31 : (t3 == t1) = false := by rw [beq_eq_false_iff_ne]; exact Ne.symm n13
  have q23 : (t2 == t3) = false := by rw [beq_eq_false_iff_ne]; exact n23
  have q32 : (t3 == t2) = false := by rw [beq_eq_false_iff_ne]; exact Ne.symm n23
  have r0 : (t0 == t0) = true := by simp
  have s0 : (t0 != t0) = false := by simp
  have r1 : (t1 == t1) = true := by simp
  have s1 : (t1 != t1) = false := by simp
  have r2 : (t2 == t2) = true := by simp
  have s2 : (t2 != t2) = false := by simp
  have r3 : (t3 == t3) = true := by simp
  have s3 : (t3 != t3) = false := by simp
  have HP := Lib.hid hp
  have HB := Lib.hid hb
  clear hp hb
  have HB2 := Lib.hid hb2
  clear hb2
  clear hT i0 i1 i2 i3 n01 n02 n03 n12 n13 n23
  go_enter Tryf.func5, Tryf.ntmps5
  go_wp2_with (first | (go_at_call 12; refine (bytes_yes s k t0 t1 c t2 t3 w (by omega) (by omega)).mono ?_; rintro e w1 ⟨rfl, rfl⟩))
  refine (at_any s k w hs hk HT.out).mono ?_
  rintro e w1 ⟨S2, er2, rfl, hL2, e20, e21⟩
  have HL2 := Lib.hid hL2
  have T1 := Lib.hid hL2.tabs
  have OW1 := Lib.hid hL2.only
  have hple := itr_le s.data.toList k
  rw [str_len] at hple
  clear hL2
  go_wp2_with fail
  refine (at_any s k w1 hs hk T1.out).mono ?_
  rintro e w2 ⟨S3, er3, rfl, hL3, e30, e31⟩
  have HL3 := Lib.hid hL3
  obtain ⟨F2, L2, hL2', hX2⟩ := HL2.out.focus hL3.below
  have HL2b := Lib.hid hL2'
  have HX2 := Lib.hid hX2
  have OO := Lib.hid (HL2.out.only.next hL3.only (by simp [Base.new]))
  clear hL3 hL2' hX2
  have C2 := Lib.hid (door3_two HL2b.out e20 (by omega) t0 t1 c t2 I0.out I1.out I2.out hc HP.out HB.out hne)
  go_wp2_with fail
  refine C2.out.mono ?_
  rintro e w3 ⟨rfl, hL2c⟩
  have c3 := hL2c.off
  obtain ⟨F3, L3, hL3', hX3⟩ := HL3.out.moved hL2c.only (fun x hx => (HX2.out x hx).2) hL2c.tabs
  have HL3b := Lib.hid hL3'
  have HX3 := Lib.hid hX3
  have OO2 := Lib.hid (OO.out.next hL2c.only (fun x hx => .inr (HX2.out x hx).1))
  have z1 := Lib.hid (HL2.out.only.size)
  clear hL2c hL3' hX3 C2 HL2b HL3 HL2 OO
  have C3 := Lib.hid (door4_two HL3b.out e30 (by omega) t0 t1 c t2 t3 I0.out I1.out I2.out I3.out hc HP.out HB.out hne HB2.out)
  go_wp2_with (first | (go_at_call 9; refine (off_any S2 _ w3 c3).mono ?_; rintro e w4 ⟨rfl, rfl⟩))
  refine C3.out.mono ?_
  rintro e w5 ⟨rfl, hL3c⟩
  have d3 := hL3c.off
  have OO3 := Lib.hid (OO2.out.next hL3c.only (fun x hx => .inr (Nat.le_trans z1.out (HX3.out x hx).1)))
  clear hL3c
  clear C3 c3
  generalize itr s.data.toList k = p at *
  have x1 : (((p + 1 : Nat) : Int) == ((p + 1 : Nat) : Int)) = true := by simp
  have x2 : (((p + 1 : Nat) : Int) == (p : Int) + 1) = true := by simp
  by_cases y1 : p + 1 < s.size
  · have y2 : ((s[p + 1].toNat : Int) == 61) = false := by
      have hh : bt s.data.toList (p + 1) ≠ 61 := fun e => HB2.out ⟨by rw [str_len]; exact y1, e⟩
      rw [str_bt s _ y1] at hh
      simp; omega
    have y3 : ((p + 1 : Nat) : Int) < (s.size : Int) := by omega
    go_wp2_with (first | (go_at_call 9; refine (off_any S3 _ w5 d3).mono ?_; rintro e w4 ⟨rfl, rfl⟩))
    go_ret
    exact ⟨by first | (simp; done) | (simp; omega), OO3.out.below (Nat.le_refl _) (by simp [Base.new])⟩
  · have y3 : ¬ ((p + 1 : Nat) : Int) < (s.size : Int) := by omega
    have y4 : decide (((p + 1 : Nat) : Int) < (s.size : Int)) = false := decide_eq_false y3
    go_wp2_with (first | (go_at_call 9; refine (off_any S3 _ w5 d3).mono ?_; rintro e w4 ⟨rfl, rfl⟩))
    go_ret
    exact ⟨by first | (simp; done) | (simp; omega), OO3.out.below (Nat.le_refl _) (by simp [Base.new])⟩
set_option maxHeartbeats 4000000 in
set_option maxRecDepth 20000 in
theorem walk_three (s : ByteArray) (k : Nat) (t0 t1 : Int) (c : Nat) (t2 t3 : Int) (w : World) (hs : s.size ≤ 65536) (hk : k ≤ 65536) (hc : c < 128) (i0 : I64 t0) (i1 : I64 t1) (i2 : I64 t2) (i3 : I64 t3) (n01 : t0 ≠ t1) (n02 : t0 ≠ t2) (n03 : t0 ≠ t3) (n12 : t1 ≠ t2) (n13 : t1 ≠ t3) (n23 : t2 ≠ t3) (hT : Tabs w) (hp : itr s.data.toList k < s.data.toList.length) (hb : bt s.data.toList (itr s.data.toList k) = c) (hne : c ≠ 61) (hp2 : itr s.data.toList k + 1 < s.data.toList.length) (hb2 : bt s.data.toList (itr s.data.toList k + 1) = 61) :
    Calls Tryf.prog 5 #[.string s, .int .i64 k, .int .i64 t0, .int .i64 t1, .int .i32 c, .int .i64 t2, .int .i64 t3] w fun e w' => e = .returned (.bool true) ∧ Below w.heap.size w w' := by
  have HT := Lib.hid hT
  have I0 := Lib.hid i0
  have I1 := Lib.hid i1
  have I2 := Lib.hid i2
  have I3 := Lib.hid i3
  have q01 : (t0 == t1) = false := by rw [beq_eq_false_iff_ne]; exact n01
  have q10 : (t1 == t0) = false := by rw [beq_eq_false_iff_ne]; exact Ne.symm n01
  have q02 : (t0 == t2) = false := by rw [beq_eq_false_iff_ne]; exact n02
  have q20 : (t2 == t0) = false := by rw [beq_eq_false_iff_ne]; exact Ne.symm n02
  have q03 : (t0 == t3) = false := by rw [beq_eq_false_iff_ne]; exact n03
  have q30 : (t3 == t0) = false := by rw [beq_eq_false_iff_ne]; exact Ne.symm n03
  have q12 : (t1 == t2) = false := by rw [beq_eq_false_iff_ne]; exact n12
  have q21 : (t2 == t1) = false := by rw [beq_eq_false_iff_ne]; exact Ne.symm n12
  have q13 : (t1 == t3) = false := by rw [beq_eq_false_iff_ne]; exact n13
  have q31 : (t3 == t1) = false := by rw [beq_eq_false_iff_ne]; exact Ne.symm n13
  have q23 : (t2 == t3) = false := by rw [beq_eq_false_iff_ne]; exact n23
  have q32 : (t3 == t2) = false := by rw [beq_eq_false_iff_ne]; exact Ne.symm n23
  have r0 : (t0 == t0) = true := by simp
  have s0 : (t0 != t0) = false := by simp
  have r1 : (t1 == t1) = true := by simp
  have s1 : (t1 != t1) = false := by simp
  have r2 : (t2 == t2) = true := by simp
  have s2 : (t2 != t2) = false := by simp
  have r3 : (t3 == t3) = true := by simp
  have s3 : (t3 != t3) = false := by simp
  have HP := Lib.hid hp
  have HB := Lib.hid hb
  have HP2 := Lib.hid hp2
  have HB2 := Lib.hid hb2
  clear hp hb hp2 hb2
  clear hT i0 i1 i2 i3 n01 n02 n03 n12 n13 n23
  go_enter Tryf.func5, Tryf.ntmps5
  go_wp2_with (first | (go_at_call 12; refine (bytes_yes s k t0 t1 c t2 t3 w (by omega) (by omega)).mono ?_; rintro e w1 ⟨rfl, rfl⟩))
  refine (at_any s k w hs hk HT.out).mono ?_
  rintro e w1 ⟨S2, er2, rfl, hL2, e20, e21⟩
  have HL2 := Lib.hid hL2
  have T1 := Lib.hid hL2.tabs
  have OW1 := Lib.hid hL2.only
  have hple := itr_le s.data.toList k
  rw [str_len] at hple
  clear hL2
  go_wp2_with fail
  refine (at_any s k w1 hs hk T1.out).mono ?_
  rintro e w2 ⟨S3, er3, rfl, hL3, e30, e31⟩
  have HL3 := Lib.hid hL3
  obtain ⟨F2, L2, hL2', hX2⟩ := HL2.out.focus hL3.below
  have HL2b := Lib.hid hL2'
  have HX2 := Lib.hid hX2
  have OO := Lib.hid (HL2.out.only.next hL3.only (by simp [Base.new]))
  clear hL3 hL2' hX2
  have C2 := Lib.hid (door3_two HL2b.out e20 (by omega) t0 t1 c t2 I0.out I1.out I2.out hc HP.out HB.out hne)
  go_wp2_with fail
  refine C2.out.mono ?_
  rintro e w3 ⟨rfl, hL2c⟩
  have c3 := hL2c.off
  obtain ⟨F3, L3, hL3', hX3⟩ := HL3.out.moved hL2c.only (fun x hx => (HX2.out x hx).2) hL2c.tabs
  have HL3b := Lib.hid hL3'
  have HX3 := Lib.hid hX3
  have OO2 := Lib.hid (OO.out.next hL2c.only (fun x hx => .inr (HX2.out x hx).1))
  have z1 := Lib.hid (HL2.out.only.size)
  clear hL2c hL3' hX3 C2 HL2b HL3 HL2 OO
  have C3 := Lib.hid (door4_three HL3b.out e30 (by omega) t0 t1 c t2 t3 I0.out I1.out I2.out I3.out hc HP.out HB.out hne HP2.out HB2.out)
  go_wp2_with (first | (go_at_call 9; refine (off_any S2 _ w3 c3).mono ?_; rintro e w4 ⟨rfl, rfl⟩))
  refine C3.out.mono ?_
  rintro e w5 ⟨rfl, hL3c⟩
  have d3 := hL3c.off
  have OO3 := Lib.hid (OO2.out.next hL3c.only (fun x hx => .inr (Nat.le_trans z1.out (HX3.out x hx).1)))
  clear hL3c
  clear C3 c3
  generalize itr s.data.toList k = p at *
  have x1 : (((p + 2 : Nat) : Int) == ((p + 1 : Nat) : Int) + 1) = true := by simp; omega
  have x2 : (((p + 2 : Nat) : Int) == (p : Int) + 1 + 1) = true := by simp; omega
  have y1 : p + 1 < s.size := by have := HP2.out; rwa [str_len] at this
  have y2 : ((s[p + 1].toNat : Int) == 61) = true := by have := HB2.out; rw [str_bt s _ y1] at this; simp; omega
  have y3 : ((p + 1 : Nat) : Int) < (s.size : Int) := by omega
  go_wp2_with (first | (go_at_call 9; refine (off_any S3 _ w5 d3).mono ?_; rintro e w4 ⟨rfl, rfl⟩))
  go_ret
  exact ⟨by first | (simp; done) | (simp; omega), OO3.out.below (Nat.le_refl _) (by simp [Base.new])⟩
set_option maxHeartbeats 4000000 in
set_option maxRecDepth 20000 in
theorem walk_no (s : ByteArray) (k : Nat) (t0 t1 : Int) (c : Nat) (t2 t3 : Int) (w : World) (hs : s.size ≤ 65536) (hk : k ≤ 65536) (hc : c < 128) (i0 : I64 t0) (i1 : I64 t1) (i2 : I64 t2) (i3 : I64 t3) (n01 : t0 ≠ t1) (n02 : t0 ≠ t2) (n03 : t0 ≠ t3) (n12 : t1 ≠ t2) (n13 : t1 ≠ t3) (n23 : t2 ≠ t3) (hT : Tabs w) (hb : ¬ (itr s.data.toList k < s.data.toList.length ∧ bt s.data.toList (itr s.data.toList k) = 61)) (hb2 : ¬ (itr s.data.toList k < s.data.toList.length ∧ bt s.data.toList (itr s.data.toList k) = c)) :
    Calls Tryf.prog 5 #[.string s, .int .i64 k, .int .i64 t0, .int .i64 t1, .int .i32 c, .int .i64 t2, .int .i64 t3] w fun e w' => e = .returned (.bool true) ∧ Below w.heap.size w w' := by
  have HT := Lib.hid hT
  have I0 := Lib.hid i0
  have I1 := Lib.hid i1
  have I2 := Lib.hid i2
  have I3 := Lib.hid i3
  have q01 : (t0 == t1) = false := by rw [beq_eq_false_iff_ne]; exact n01
  have q10 : (t1 == t0) = false := by rw [beq_eq_false_iff_ne]; exact Ne.symm n01
  have q02 : (t0 == t2) = false := by rw [beq_eq_false_iff_ne]; exact n02
  have q20 : (t2 == t0) = false := by rw [beq_eq_false_iff_ne]; exact Ne.symm n02
  have q03 : (t0 == t3) = false := by rw [beq_eq_false_iff_ne]; exact n03
  have q30 : (t3 == t0) = false := by rw [beq_eq_false_iff_ne]; exact Ne.symm n03
  have q12 : (t1 == t2) = false := by rw [beq_eq_false_iff_ne]; exact n12
  have q21 : (t2 == t1) = false := by rw [beq_eq_false_iff_ne]; exact Ne.symm n12
  have q13 : (t1 == t3) = false := by rw [beq_eq_false_iff_ne]; exact n13
  have q31 : (t3 == t1) = false := by rw [beq_eq_false_iff_ne]; exact Ne.symm n13
  have q23 : (t2 == t3) = false := by rw [beq_eq_false_iff_ne]; exact n23
  have q32 : (t3 == t2) = false := by rw [beq_eq_false_iff_ne]; exact Ne.symm n23
  have r0 : (t0 == t0) = true := by simp
  have s0 : (t0 != t0) = false := by simp
  have r1 : (t1 == t1) = true := by simp
  have s1 : (t1 != t1) = false := by simp
  have r2 : (t2 == t2) = true := by simp
  have s2 : (t2 != t2) = false := by simp
  have r3 : (t3 == t3) = true := by simp
  have s3 : (t3 != t3) = false := by simp
  have HB := Lib.hid hb
  have HB2 := Lib.hid hb2
  clear hb hb2
  clear hT i0 i1 i2 i3 n01 n02 n03 n12 n13 n23
  go_enter Tryf.func5, Tryf.ntmps5
  go_wp2_with (first | (go_at_call 12; refine (bytes_yes s k t0 t1 c t2 t3 w (by omega) (by omega)).mono ?_; rintro e w1 ⟨rfl, rfl⟩))
  refine (at_any s k w hs hk HT.out).mono ?_
  rintro e w1 ⟨S2, er2, rfl, hL2, e20, e21⟩
  have HL2 := Lib.hid hL2
  have T1 := Lib.hid hL2.tabs
  have OW1 := Lib.hid hL2.only
  have hple := itr_le s.data.toList k
  rw [str_len] at hple
  clear hL2
  go_wp2_with fail
  refine (at_any s k w1 hs hk T1.out).mono ?_
  rintro e w2 ⟨S3, er3, rfl, hL3, e30, e31⟩
  have HL3 := Lib.hid hL3
  obtain ⟨F2, L2, hL2', hX2⟩ := HL2.out.focus hL3.below
  have HL2b := Lib.hid hL2'
  have HX2 := Lib.hid hX2
  have OO := Lib.hid (HL2.out.only.next hL3.only (by simp [Base.new]))
  clear hL3 hL2' hX2
  have C2 := Lib.hid (door3_no HL2b.out e20 (by omega) t0 t1 c t2 I0.out I1.out I2.out hc HB.out HB2.out)
  go_wp2_with fail
  refine C2.out.mono ?_
  rintro e w3 ⟨rfl, rfl⟩
  have c3 := HL2b.out.off
  have HL3b := HL3
  clear C2 HL2b HL2 HX2
  have C3 := Lib.hid (door4_no HL3b.out e30 (by omega) t0 t1 c t2 t3 I0.out I1.out I2.out I3.out hc HB.out HB2.out)
  go_wp2_with (first | (go_at_call 9; refine (off_any S2 _ w2 c3).mono ?_; rintro e w4 ⟨rfl, rfl⟩))
  refine C3.out.mono ?_
  rintro e w5 ⟨rfl, rfl⟩
  have d3 := HL3b.out.off
  clear C3 c3
  generalize itr s.data.toList k = p at *
  go_wp2_with (first | (go_at_call 9; refine (off_any S3 _ w2 d3).mono ?_; rintro e w4 ⟨rfl, rfl⟩))
  go_ret
  exact ⟨by first | (simp; done) | (simp; omega), OO.out.below (Nat.le_refl _) (by simp [Base.new])⟩
set_option maxHeartbeats 4000000 in
theorem walk (w : World) (s : ByteArray) (k t0 t1 c t2 t3 : Int) (hs : s.size ≤ maxLen) (hk : (Lit.int .i64 k).wf = true) (h0 : (Lit.int .i64 t0).wf = true) (h1 : (Lit.int .i64 t1).wf = true) (hc : (Lit.int .i32 c).wf = true) (h2 : (Lit.int .i64 t2).wf = true) (h3 : (Lit.int .i64 t3).wf = true) (hL : laidMet Tryf.prog Rows.fnSwitch4ExtendsSwitch3Row.laid w) :
    Calls Tryf.prog 5 #[.string s, .int .i64 k, .int .i64 t0, .int .i64 t1, .int .i32 c, .int .i64 t2, .int .i64 t3] w fun e w' => e = .returned (.bool true) ∧ Below w.heap.size w w' := by
  have HT := Lib.hid (tabs_of (Lib.laidMet.reads hL (.head _)) (Lib.laidMet.reads hL (.tail _ (.head _))))
  have rk : -9223372036854775808 ≤ k ∧ k ≤ 9223372036854775807 := by simpa [Lit.wf, IntKind.min, IntKind.max, IntKind.signed, IntKind.bits] using hk
  have rt0 : -9223372036854775808 ≤ t0 ∧ t0 ≤ 9223372036854775807 := by simpa [Lit.wf, IntKind.min, IntKind.max, IntKind.signed, IntKind.bits] using h0
  have rt1 : -9223372036854775808 ≤ t1 ∧ t1 ≤ 9223372036854775807 := by simpa [Lit.wf, IntKind.min, IntKind.max, IntKind.signed, IntKind.bits] using h1
  have rt2 : -9223372036854775808 ≤ t2 ∧ t2 ≤ 9223372036854775807 := by simpa [Lit.wf, IntKind.min, IntKind.max, IntKind.signed, IntKind.bits] using h2
  have rt3 : -9223372036854775808 ≤ t3 ∧ t3 ≤ 9223372036854775807 := by simpa [Lit.wf, IntKind.min, IntKind.max, IntKind.signed, IntKind.bits] using h3
  have hs2 : s.size ≤ 9223372036854775807 := by unfold maxLen at hs; omega
  clear hL hs hk hc h0 h1 h2 h3
  by_cases a1 : ¬ s.size ≤ 1048576
  · go_enter Tryf.func5, Tryf.ntmps5
    go_wp2_with (first | (go_at_call 12; refine (bytes_no s k t0 t1 c t2 t3 w hs2 a1).mono ?_; rintro e w1 ⟨rfl, rfl⟩))
    go_ret
    exact ⟨rfl, Below.refl _ _⟩
  replace a1 := Classical.not_not.1 a1
  by_cases a2 : ¬ s.size ≤ 65536
  · go_enter Tryf.func5, Tryf.ntmps5
    go_wp2_with (first | (go_at_call 12; refine (bytes_yes s k t0 t1 c t2 t3 w hs2 a1).mono ?_; rintro e w1 ⟨rfl, rfl⟩))
    go_ret
    exact ⟨rfl, Below.refl _ _⟩
  replace a2 := Classical.not_not.1 a2
  by_cases a3 : ¬ 0 ≤ k
  · go_enter Tryf.func5, Tryf.ntmps5
    go_wp2_with (first | (go_at_call 12; refine (bytes_yes s k t0 t1 c t2 t3 w hs2 a1).mono ?_; rintro e w1 ⟨rfl, rfl⟩))
    go_ret
    exact ⟨rfl, Below.refl _ _⟩
  replace a3 := Classical.not_not.1 a3
  by_cases a4 : ¬ k ≤ 65536
  · go_enter Tryf.func5, Tryf.ntmps5
    go_wp2_with (first | (go_at_call 12; refine (bytes_yes s k t0 t1 c t2 t3 w hs2 a1).mono ?_; rintro e w1 ⟨rfl, rfl⟩))
    go_ret
    exact ⟨rfl, Below.refl _ _⟩
  replace a4 := Classical.not_not.1 a4
  by_cases a5 : ¬ 0 ≤ c
  · go_enter Tryf.func5, Tryf.ntmps5
    go_wp2_with (first | (go_at_call 12; refine (bytes_yes s k t0 t1 c t2 t3 w hs2 a1).mono ?_; rintro e w1 ⟨rfl, rfl⟩))
    go_ret
    exact ⟨rfl, Below.refl _ _⟩
  replace a5 := Classical.not_not.1 a5
  by_cases a6 : ¬ c ≤ 127
  · go_enter Tryf.func5, Tryf.ntmps5
    go_wp2_with (first | (go_at_call 12; refine (bytes_yes s k t0 t1 c t2 t3 w hs2 a1).mono ?_; rintro e w1 ⟨rfl, rfl⟩))
    go_ret
    exact ⟨rfl, Below.refl _ _⟩
  replace a6 := Classical.not_not.1 a6
  by_cases n01 : t0 = t1
  · subst n01
    go_enter Tryf.func5, Tryf.ntmps5
    go_wp2_with (first | (go_at_call 12; refine (bytes_yes s k t0 t0 c t2 t3 w hs2 a1).mono ?_; rintro e w1 ⟨rfl, rfl⟩))
    go_ret
    exact ⟨rfl, Below.refl _ _⟩
  have q01 : (t0 == t1) = false := by rw [beq_eq_false_iff_ne]; exact n01
  by_cases n02 : t0 = t2
  · subst n02
    go_enter Tryf.func5, Tryf.ntmps5
    go_wp2_with (first | (go_at_call 12; refine (bytes_yes s k t0 t1 c t0 t3 w hs2 a1).mono ?_; rintro e w1 ⟨rfl, rfl⟩))
    go_ret
    exact ⟨rfl, Below.refl _ _⟩
  have q02 : (t0 == t2) = false := by rw [beq_eq_false_iff_ne]; exact n02
  by_cases n03 : t0 = t3
  · subst n03
    go_enter Tryf.func5, Tryf.ntmps5
    go_wp2_with (first | (go_at_call 12; refine (bytes_yes s k t0 t1 c t2 t0 w hs2 a1).mono ?_; rintro e w1 ⟨rfl, rfl⟩))
    go_ret
    exact ⟨rfl, Below.refl _ _⟩
  have q03 : (t0 == t3) = false := by rw [beq_eq_false_iff_ne]; exact n03
  by_cases n12 : t1 = t2
  · subst n12
    go_enter Tryf.func5, Tryf.ntmps5
    go_wp2_with (first | (go_at_call 12; refine (bytes_yes s k t0 t1 c t1 t3 w hs2 a1).mono ?_; rintro e w1 ⟨rfl, rfl⟩))
    go_ret
    exact ⟨rfl, Below.refl _ _⟩
  have q12 : (t1 == t2) = false := by rw [beq_eq_false_iff_ne]; exact n12
  by_cases n13 : t1 = t3
  · subst n13
    go_enter Tryf.func5, Tryf.ntmps5
    go_wp2_with (first | (go_at_call 12; refine (bytes_yes s k t0 t1 c t2 t1 w hs2 a1).mono ?_; rintro e w1 ⟨rfl, rfl⟩))
    go_ret
    exact ⟨rfl, Below.refl _ _⟩
  have q13 : (t1 == t3) = false := by rw [beq_eq_false_iff_ne]; exact n13
  by_cases n23 : t2 = t3
  · subst n23
    go_enter Tryf.func5, Tryf.ntmps5
    go_wp2_with (first | (go_at_call 12; refine (bytes_yes s k t0 t1 c t2 t2 w hs2 a1).mono ?_; rintro e w1 ⟨rfl, rfl⟩))
    go_ret
    exact ⟨rfl, Below.refl _ _⟩
  have q23 : (t2 == t3) = false := by rw [beq_eq_false_iff_ne]; exact n23
  clear q01 q02 q03 q12 q13 q23
  obtain ⟨k, rfl⟩ : ∃ m : Nat, k = (m : Int) := ⟨k.toNat, by omega⟩
  obtain ⟨c, rfl⟩ : ∃ m : Nat, c = (m : Int) := ⟨c.toNat, by omega⟩
  by_cases b1 : itr s.data.toList k < s.data.toList.length ∧ bt s.data.toList (itr s.data.toList k) = 61
  · exact walk_eq s k t0 t1 c t2 t3 w a2 (by omega) (by omega) rt0 rt1 rt2 rt3 n01 n02 n03 n12 n13 n23 HT.out b1.1 b1.2
  by_cases b2 : itr s.data.toList k < s.data.toList.length ∧ bt s.data.toList (itr s.data.toList k) = c
  · by_cases b3 : itr s.data.toList k + 1 < s.data.toList.length ∧ bt s.data.toList (itr s.data.toList k + 1) = 61
    · exact walk_three s k t0 t1 c t2 t3 w a2 (by omega) (by omega) rt0 rt1 rt2 rt3 n01 n02 n03 n12 n13 n23 HT.out b2.1 b2.2 (fun hh => b1 ⟨b2.1, by rw [b2.2, hh]⟩) b3.1 b3.2
    · exact walk_two s k t0 t1 c t2 t3 w a2 (by omega) (by omega) rt0 rt1 rt2 rt3 n01 n02 n03 n12 n13 n23 HT.out b2.1 b2.2 (fun hh => b1 ⟨b2.1, by rw [b2.2, hh]⟩) b3
  exact walk_no s k t0 t1 c t2 t3 w a2 (by omega) (by omega) rt0 rt1 rt2 rt3 n01 n02 n03 n12 n13 n23 HT.out b1 b2
end Go.Proofs.YtebahaclnbjnoaaFmt.Sw4Law
