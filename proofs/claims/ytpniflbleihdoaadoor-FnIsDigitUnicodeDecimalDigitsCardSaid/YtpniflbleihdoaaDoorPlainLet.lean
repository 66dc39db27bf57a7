/-
  Proved: in Go's unicode tables no letter is a digit; letters lie in 65..0x10FFFF and digits in 48..0x10FFFF.
  Conditions: the rune is an int32. No program in this text.
-/
import Derived.Lib.IsU
namespace Go.Proofs.YtpniflbleihdoaaDoor.Plain
open Go Go.Lib

/-- r lies in the range x, on its stride. -/
def rgIn (x : Rg) (r : Nat) : Bool := decide (x.1 ≤ r) && decide (r ≤ x.2.1) && x.has r

theorem linGo_in (T : Array Rg) (r : Nat) : ∀ f i, linGo T r f i = true → ∃ j, j < T.size ∧ rgIn (T.getD j (0, 0, 0)) r = true
  | 0, _, h => by simp [linGo] at h
  | f + 1, i, h => by
    unfold linGo at h
    by_cases hi : i < T.size
    · rw [if_pos hi] at h
      by_cases h1 : r < (T.getD i (0, 0, 0)).1
      · rw [if_pos h1] at h; cases h
      · rw [if_neg h1] at h
        by_cases h2 : r ≤ (T.getD i (0, 0, 0)).2.1
        · rw [if_pos h2] at h
          refine ⟨i, hi, ?_⟩
          unfold rgIn
          rw [h, decide_eq_true (Nat.le_of_not_lt h1), decide_eq_true h2]
          rfl
        · rw [if_neg h2] at h
          exact linGo_in T r f (i + 1) h
    · rw [if_neg hi] at h; cases h

theorem binGo_in (T : Array Rg) (r : Nat) : ∀ f lo hi, hi ≤ T.size → binGo T r f lo hi = true → ∃ j, j < T.size ∧ rgIn (T.getD j (0, 0, 0)) r = true
  | 0, _, _, _, h => by simp [binGo] at h
  | f + 1, lo, hi, hs, h => by
    unfold binGo at h
    by_cases hl : lo < hi
    · rw [if_pos hl] at h
      by_cases h1 : (T.getD ((lo + hi) / 2) (0, 0, 0)).1 ≤ r ∧ r ≤ (T.getD ((lo + hi) / 2) (0, 0, 0)).2.1
      · rw [if_pos h1] at h
        refine ⟨(lo + hi) / 2, by omega, ?_⟩
        unfold rgIn
        rw [h, decide_eq_true h1.1, decide_eq_true h1.2]
        rfl
      · rw [if_neg h1] at h
        by_cases h2 : r < (T.getD ((lo + hi) / 2) (0, 0, 0)).1
        · rw [if_pos h2] at h
          exact binGo_in T r f lo ((lo + hi) / 2) (by omega) h
        · rw [if_neg h2] at h
          exact binGo_in T r f ((lo + hi) / 2 + 1) hi hs h
    · rw [if_neg hl] at h; cases h

theorem is16_in {T : Array Rg} {r : Nat} (h : is16Go T r = true) : ∃ j, j < T.size ∧ rgIn (T.getD j (0, 0, 0)) r = true := by
  unfold is16Go at h
  split at h
  · exact linGo_in T r _ _ h
  · exact binGo_in T r _ _ _ (Nat.le_refl _) h
theorem is32_in {T : Array Rg} {r : Nat} (h : is32Go T r = true) : ∃ j, j < T.size ∧ rgIn (T.getD j (0, 0, 0)) r = true := by
  unfold is32Go at h
  split at h
  · exact linGo_in T r _ _ h
  · exact binGo_in T r _ _ _ (Nat.le_refl _) h

theorem mem_of_getD {T : Array Rg} {j : Nat} (h : j < T.size) : T.getD j (0, 0, 0) ∈ T.toList := by
  simp [Array.getD, h]

/-- What a table of runes says yes to lies in one of its ranges. -/
theorem excl_in {T : RTab} {r : Int} (hb : (T.r16.getD (T.r16.size - 1) (0, 0, 0)).2.1 < 65536) (h0 : -2147483648 ≤ r) (hr : r ≤ 2147483647) (h : exclGo T r = true) :
    0 ≤ r ∧ ∃ x ∈ T.r16.toList ++ T.r32.toList, rgIn x r.toNat = true := by
  unfold exclGo at h
  split at h
  · rename_i hc
    have hu := hc.2
    have hpos : 0 ≤ r := by unfold u32Of at hu; omega
    have e : u32Of r % 65536 = r.toNat := by unfold u32Of at *; omega
    rw [e] at h
    obtain ⟨j, hj, hx⟩ := is16_in h
    have hs : (T.r16.extract T.off T.r16.size).size = T.r16.size - T.off := by simp
    have hm := mem_of_getD hj
    refine ⟨hpos, _, List.mem_append_left _ ?_, hx⟩
    have : ∀ y ∈ (T.r16.extract T.off T.r16.size).toList, y ∈ T.r16.toList := by
      intro y hy
      simp only [Array.toList_extract] at hy
      exact List.mem_of_mem_drop (List.mem_of_mem_take (by simpa [List.extract] using hy))
    exact this _ hm
  · split at h
    · rename_i hc
      have hpos : 0 ≤ r := by have := hc.2; omega
      have e : u32Of r = r.toNat := by unfold u32Of; omega
      rw [e] at h
      obtain ⟨j, hj, hx⟩ := is32_in h
      exact ⟨hpos, _, List.mem_append_right _ (mem_of_getD hj), hx⟩
    · cases h

/-- Two ranges have no rune in common. -/
def apart (x y : Rg) : Bool :=
  let lo := Nat.max x.1 y.1
  let hi := Nat.min x.2.1 y.2.1
  if hi < lo then true else (List.range (hi + 1 - lo)).all fun i => !(x.has (lo + i) && y.has (lo + i))

theorem apart_of {x y : Rg} {r : Nat} (h : apart x y = true) (hx : rgIn x r = true) (hy : rgIn y r = true) : False := by
  simp only [rgIn, Bool.and_eq_true, decide_eq_true_eq] at hx hy
  obtain ⟨⟨a1, a2⟩, a3⟩ := hx
  obtain ⟨⟨b1, b2⟩, b3⟩ := hy
  unfold apart at h
  simp only at h
  have m1 : Nat.max x.1 y.1 ≤ r := Nat.max_le.2 ⟨a1, b1⟩
  have m2 : r ≤ Nat.min x.2.1 y.2.1 := Nat.le_min.2 ⟨a2, b2⟩
  rw [if_neg (by omega)] at h
  have := List.all_eq_true.1 h (r - Nat.max x.1 y.1) (by simp; omega)
  rw [show Nat.max x.1 y.1 + (r - Nat.max x.1 y.1) = r by omega, a3, b3] at this
  cases this

def letterRgs : List Rg := letterT.r16.toList ++ letterT.r32.toList
def digitRgs : List Rg := digitT.r16.toList ++ digitT.r32.toList
theorem all_apart : (letterRgs.all fun x => digitRgs.all fun y => apart x y) = true := by decide +kernel
theorem letter_bounds : (letterRgs.all fun x => decide (65 ≤ x.1) && decide (x.2.1 ≤ 1114111)) = true := by decide +kernel
theorem digit_bounds : (digitRgs.all fun x => decide (48 ≤ x.1) && decide (x.2.1 ≤ 1114111)) = true := by decide +kernel
theorem letter_b16 : (letterT.r16.getD (letterT.r16.size - 1) (0, 0, 0)).2.1 < 65536 := by decide +kernel
theorem digit_b16 : (digitT.r16.getD (digitT.r16.size - 1) (0, 0, 0)).2.1 < 65536 := by decide +kernel

theorem letterU_range {r : Int} (h0 : -2147483648 ≤ r) (hr : r ≤ 2147483647) (h : isLetterU r = true) : 65 ≤ r ∧ r ≤ 1114111 := by
  unfold isLetterU at h
  split at h
  · unfold isLetterL isUpperL isLowerL at h
    simp at h
    omega
  · obtain ⟨hp, x, hx, hi⟩ := excl_in letter_b16 h0 hr h
    have := List.all_eq_true.1 letter_bounds x hx
    simp only [rgIn, Bool.and_eq_true, decide_eq_true_eq] at this hi
    omega

theorem digitU_range {r : Int} (h0 : -2147483648 ≤ r) (hr : r ≤ 2147483647) (h : isDigitU r = true) : 48 ≤ r ∧ r ≤ 1114111 := by
  unfold isDigitU at h
  split at h
  · unfold isDigitL at h
    simp at h
    omega
  · obtain ⟨hp, x, hx, hi⟩ := excl_in digit_b16 h0 hr h
    have := List.all_eq_true.1 digit_bounds x hx
    simp only [rgIn, Bool.and_eq_true, decide_eq_true_eq] at this hi
    omega

theorem not_digit_of_letter {r : Int} (h0 : -2147483648 ≤ r) (hr : r ≤ 2147483647) (h : isLetterU r = true) : isDigitU r = false := by
  cases hd : isDigitU r with
  | false => rfl
  | true =>
    exfalso
    have r1 := letterU_range h0 hr h
    unfold isDigitU at hd
    unfold isLetterU at h
    by_cases hl : r ≤ 255
    · rw [if_pos hl] at hd
      rw [if_pos (by unfold latin1; simp; omega)] at h
      unfold isLetterL isUpperL isLowerL at h
      unfold isDigitL at hd
      simp at h hd
      omega
    · rw [if_neg hl] at hd
      rw [if_neg (by unfold latin1; simp; omega)] at h
      obtain ⟨_, x, hx, hi⟩ := excl_in letter_b16 h0 hr h
      obtain ⟨_, y, hy, hj⟩ := excl_in digit_b16 h0 hr hd
      exact apart_of (List.all_eq_true.1 (List.all_eq_true.1 all_apart x hx) y hy) hi hj
end Go.Proofs.YtpniflbleihdoaaDoor.Plain
