/-
  Proved: the walk of FnSourceFilePosStringIgnoresOffset: it returns true at every argument, fmt's text told.
  Conditions: none beyond the given card.
-/
import Derived.Test.YtpniflbleihdoaaFmtPos
namespace Go.Proofs.YtpniflbleihdoaaFmt.Core
open Go.ChangeShapes Go.WideShapes Go.ChangeAt Go.RowKit Go.Extern.Stop Go.Stop Go.Extern
set_option linter.unusedVariables false

theorem data_ext {a b : ByteArray} (h : a.data.toList = b.data.toList) : a = b := ByteArray.ext (Array.toList_inj.1 h)
theorem empty_of {nm : ByteArray} (h : nm.toList.isEmpty = true) : nm = ⟨#[]⟩ := by
  rw [ByteArray.toList_eq] at h
  apply data_ext
  simpa using h
theorem full_of {nm : ByteArray} (h : nm.toList.isEmpty = false) : 0 < nm.size := by
  rw [ByteArray.toList_eq] at h
  show 0 < nm.data.size
  rcases Nat.eq_zero_or_pos nm.data.size with h1 | h1
  · have : nm.data = #[] := Array.size_eq_zero_iff.1 h1
    rw [this] at h
    simp at h
  · exact h1
theorem extract_self (nm : ByteArray) : nm.extract 0 nm.size = nm := by
  apply ByteArray.ext
  rw [ByteArray.data_extract]
  exact Array.extract_size
theorem extract_head (nm x : ByteArray) : (nm ++ x).extract 0 nm.size = nm := by
  apply ByteArray.ext
  rw [ByteArray.data_extract, ByteArray.data_append]
  show (nm.data ++ x.data).extract 0 nm.data.size = nm.data
  rw [Array.extract_append_left]
  exact Array.extract_size
/-- The text is the name and more. -/
theorem pos_more (nm : ByteArray) (line col : Int) : ∃ x : ByteArray, posText nm line col = nm ++ x ∧ 0 < (posText nm line col).size := by
  have hi : 0 < (Lib.itoa line).length := List.length_pos_iff.2 (itoa_ne line)
  have key : ∀ x : ByteArray, 0 < (nm ++ x).size → ∃ y, nm ++ x = nm ++ y ∧ 0 < (nm ++ x).size := fun x h => ⟨x, rfl, h⟩
  unfold posText
  cases h0 : nm.toList.isEmpty with
  | true =>
    have := empty_of h0
    subst this
    split
    · split
      · exact ⟨_, rfl, by rw [ByteArray.size_append]; show 0 < 0 + (Lib.itoa line).toArray.size; simp; omega⟩
      · rw [ByteArray.append_assoc]
        exact ⟨_, rfl, by rw [ByteArray.size_append, ByteArray.size_append]; show 0 < 0 + ((Lib.itoa line).toArray.size + _); simp; omega⟩
    · exact ⟨⟨#[45]⟩, rfl, by decide⟩
  | false =>
    have hp := full_of h0
    split
    · split
      · rw [if_neg (by simp), ByteArray.append_assoc]
        exact ⟨_, rfl, by rw [ByteArray.size_append]; omega⟩
      · rw [if_neg (by simp), ByteArray.append_assoc, ByteArray.append_assoc]
        exact ⟨_, rfl, by rw [ByteArray.size_append]; omega⟩
    · rw [if_neg (by simp)]
      exact ⟨⟨#[]⟩, (by apply data_ext; simp [ByteArray.data_append]), hp⟩
theorem pos_facts (nm : ByteArray) (line col : Int) : 0 < (posText nm line col).size ∧ nm.size ≤ (posText nm line col).size ∧ (posText nm line col).extract 0 nm.size = nm := by
  obtain ⟨x, e, h⟩ := pos_more nm line col
  refine ⟨h, ?_, ?_⟩
  · rw [e, ByteArray.size_append]; omega
  · rw [e]; exact extract_head nm x
theorem pos_bare (nm : ByteArray) {line : Int} (c1 c2 : Int) (h : ¬ 0 < line) : posText nm line c1 = posText nm line c2 := by
  unfold posText
  rw [if_neg h, if_neg h]
theorem append_inj {a x y : ByteArray} (h : a ++ x = a ++ y) : x = y := by
  have := congrArg (fun b => b.data.toList) h
  simp only [ByteArray.data_append, Array.toList_append, List.append_cancel_left_eq] at this
  exact data_ext this
theorem pos_ne (nm : ByteArray) {line c1 c2 : Int} (h : 0 < line) (hc : c1 ≠ c2) : posText nm line c1 ≠ posText nm line c2 := by
  unfold posText
  rw [if_pos h, if_pos h]
  generalize (if nm.toList.isEmpty then nm else nm ++ ⟨#[58]⟩) ++ (⟨(Lib.itoa line).toArray⟩ : ByteArray) = S
  have ne : ∀ c, S ≠ S ++ ⟨(58 :: Lib.itoa c).toArray⟩ := fun c e => by
    have := congrArg ByteArray.size e
    rw [ByteArray.size_append] at this
    have h2 : (⟨(58 :: Lib.itoa c).toArray⟩ : ByteArray).size = (Lib.itoa c).length + 1 := by show (58 :: Lib.itoa c).toArray.size = _; simp
    omega
  by_cases h1 : c1 = 0
  · by_cases h2 : c2 = 0
    · omega
    · rw [if_pos h1, if_neg h2]; exact ne c2
  · by_cases h2 : c2 = 0
    · rw [if_neg h1, if_pos h2]; exact fun e => ne c1 e.symm
    · rw [if_neg h1, if_neg h2]
      intro e
      have e2 := append_inj e
      have e3 := congrArg (fun b => b.data.toList) e2
      simp at e3
      exact hc (itoa_inj e3)
theorem list_ne {a b : ByteArray} (h : a ≠ b) : (a.toList == b.toList) = false := by
  rw [beq_eq_false_iff_ne]
  intro e
  rw [ByteArray.toList_eq, ByteArray.toList_eq] at e
  exact h (data_ext e)

theorem bytes_yes (nm : ByteArray) (o1 o2 l c1 c2 : Int) (w : World) (h : nm.size ≤ 1048576) : Calls Tryf.prog 4 #[.string nm, .int .i64 o1, .int .i64 o2, .int .i64 l, .int .i64 c1, .int .i64 c2] w fun e w' => e = .returned (.bool true) ∧ w = w' := by
  have d : decide ((1048576 : Int) < (nm.size : Int)) = false := decide_eq_false (by omega)
  go_enter Tryf.func4, Tryf.ntmps4
  go_wp2_with fail
  go_ret
  exact ⟨rfl, rfl⟩
theorem bytes_no (nm : ByteArray) (o1 o2 l c1 c2 : Int) (w : World) (h : 1048576 < nm.size) : Calls Tryf.prog 4 #[.string nm, .int .i64 o1, .int .i64 o2, .int .i64 l, .int .i64 c1, .int .i64 c2] w fun e w' => e = .returned (.bool false) ∧ w = w' := by
  have d : decide ((1048576 : Int) < (nm.size : Int)) = true := decide_eq_true (by omega)
  go_enter Tryf.func4, Tryf.ntmps4
  go_wp2_with fail
  go_ret
  exact ⟨rfl, rfl⟩

set_option maxHeartbeats 2000000 in
theorem walk1 (F : Interp) (nm : ByteArray) (o1 o2 l c1 c2 : Int) (w : World) (hF : F.told.answers w.tape) (wl : (Lit.int .i64 l).wf = true) (w1 : (Lit.int .i64 c1).wf = true) (w2 : (Lit.int .i64 c2).wf = true) (hn : nm.size ≤ 1048576) :
    Calls Tryf.prog 3 #[.string nm, .int .i64 o1, .int .i64 o2, .int .i64 l, .int .i64 c1, .int .i64 c2] w fun e w' => e = .returned (.bool true) ∧ Below w.heap.size w w' := by
  have B := Lib.hid (bytes_yes nm o1 o2 l c1 c2 w hn)
  have C1 : ∀ o, Hid (∀ v : World, Below w.heap.size w v → Calls Tryf.prog 5 #[.agg #[.string nm, .int .i64 o, .int .i64 l, .int .i64 c1]] v fun e w' => e = .returned (.string (posText nm l c1)) ∧ Below v.heap.size v w') := fun o => Lib.hid fun v hv => str_any F nm o l c1 v (by rw [hv.tape]; exact hF) wl w1 hn
  have C2 : ∀ o, Hid (∀ v : World, Below w.heap.size w v → Calls Tryf.prog 5 #[.agg #[.string nm, .int .i64 o, .int .i64 l, .int .i64 c2]] v fun e w' => e = .returned (.string (posText nm l c2)) ∧ Below v.heap.size v w') := fun o => Lib.hid fun v hv => str_any F nm o l c2 v (by rw [hv.tape]; exact hF) wl w2 hn
  obtain ⟨p1, p2, p3⟩ := pos_facts nm l c1
  have pn : ∀ h : 0 < l, c1 ≠ c2 → (((posText nm l c2).toList == (posText nm l c1).toList) = false) := fun h hc => list_ne (pos_ne nm h (Ne.symm hc))
  have pb : ¬ 0 < l → posText nm l c2 = posText nm l c1 := fun h => pos_bare nm c2 c1 h
  have pe : c1 = c2 → posText nm l c2 = posText nm l c1 := fun h => by rw [h]
  generalize posText nm l c1 = T1 at *
  generalize posText nm l c2 = T2 at *
  have PN := Lib.hid pn
  have PB := Lib.hid pb
  have PE := Lib.hid pe
  have P3 := Lib.hid p3
  clear pn pb pe hF wl w1 w2 p3
  have d0 : decide ((1048576 : Int) < (nm.size : Int)) = false := decide_eq_false (by omega)
  have d1 : ((T1.size : Int) == 0) = false := by rw [beq_eq_false_iff_ne]; omega
  have d2 : decide ((T1.size : Int) < (nm.size : Int)) = false := decide_eq_false (by omega)
  go_enter Tryf.func3, Tryf.ntmps3
  go_wp2_with (first | (go_at_call 4; refine B.out.mono ?_; rintro e w1 ⟨rfl, rfl⟩))
  refine ((C1 o1).out _ (Below.refl _ _)).mono ?_
  rintro e x1 ⟨rfl, b1⟩
  have B1 := Lib.hid b1
  clear b1
  go_wp2_with fail
  refine ((C1 o2).out _ B1.out).mono ?_
  rintro e x2 ⟨rfl, b2⟩
  have B2 := Lib.hid (B1.out.trans (b2.mono B1.out.size))
  clear b2
  go_wp2_with fail
  refine ((C2 o2).out _ B2.out).mono ?_
  rintro e x3 ⟨rfl, b3⟩
  have B3 := Lib.hid (B2.out.trans (b3.mono B2.out.size))
  clear b3
  have p3 := P3.out
  by_cases hl : 0 < l
  · have e1 : decide (l ≤ 0) = false := decide_eq_false (by omega)
    by_cases hc : c1 = c2
    · have := PE.out hc
      subst this
      have e2 : (c1 != c2) = false := by simpa using hc
      go_wp2_with fail
      go_ret
      exact ⟨by simp, B3.out⟩
    · have e2 : (c1 != c2) = true := by simpa using hc
      have e3 := PN.out hl hc
      go_wp2_with fail
      go_ret
      exact ⟨by simp [e3], B3.out⟩
  · have e1 : decide (l ≤ 0) = true := decide_eq_true (by omega)
    have := PB.out (by omega)
    subst this
    go_wp2_with fail
    go_ret
    exact ⟨by simp, B3.out⟩
theorem walk (F : Interp) (w : World) (nm : ByteArray) (o1 o2 l c1 c2 : Int) (wn : nm.size ≤ maxLen) (wo1 : (Lit.int .i64 o1).wf = true) (wo2 : (Lit.int .i64 o2).wf = true) (wl : (Lit.int .i64 l).wf = true) (w1 : (Lit.int .i64 c1).wf = true) (w2 : (Lit.int .i64 c2).wf = true) (hF : F.told.answers w.tape) :
    Calls Tryf.prog 3 #[.string nm, .int .i64 o1, .int .i64 o2, .int .i64 l, .int .i64 c1, .int .i64 c2] w fun e w' => e = .returned (.bool true) ∧ Below w.heap.size w w' := by
  by_cases hn : nm.size ≤ 1048576
  · exact walk1 F nm o1 o2 l c1 c2 w hF wl w1 w2 hn
  · have B := Lib.hid (bytes_no nm o1 o2 l c1 c2 w (by omega))
    unfold maxLen at wn
    go_enter Tryf.func3, Tryf.ntmps3
    go_wp2_with (first | (go_at_call 4; refine B.out.mono ?_; rintro e w1 ⟨rfl, rfl⟩))
    go_ret
    exact ⟨rfl, Below.refl _ _⟩
end Go.Proofs.YtpniflbleihdoaaFmt.Core
