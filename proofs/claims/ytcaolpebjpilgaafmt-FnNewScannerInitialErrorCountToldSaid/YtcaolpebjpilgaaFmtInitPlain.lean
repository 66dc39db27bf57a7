/-
  Proved: n002_85's own check of UTF-8 agrees with the decoder; zzBadAt and zzIsBOMAt by contract.
  Conditions: the text lies in memory.
-/
import Derived.Test.YtcaolpebjpilgaaFmtValid
namespace Go.Proofs.YtcaolpebjpilgaaFmt.Init
open Go.ChangeShapes Go.WideShapes Go.ChangeAt Go.RowKit Core
set_option linter.unusedVariables false

def badB (bs : List UInt8) (i : Nat) : Bool := decide (bt bs i = 0) || (decide (128 ≤ bt bs i) && !valid bs i)
def bomB (bs : List UInt8) (i : Nat) : Bool := decide (i + 3 ≤ bs.length ∧ bt bs i = 239 ∧ bt bs (i + 1) = 187 ∧ bt bs (i + 2) = 191)

theorem badAt_any (b o cap : Nat) (bs : List UInt8) (i : Nat) (w : World) (hi : i < bs.length) (hn : bs.length ≤ 2000000) (h : Row w b o cap bs) :
    Calls Tryf.prog 10 #[.slice (some ⟨b, o, none⟩) bs.length cap, .int .i64 i] w fun e w' => e = .returned (.bool (badB bs i)) ∧ w = w' := by
  have C := Lib.hid (valid_any b o cap bs i w hi hn h)
  have ci := h i hi
  have hi' : (i : Int) < (bs.length : Int) := by omega
  clear h
  by_cases h0 : bt bs i = 0
  · have e : badB bs i = true := by simp [badB, h0]
    rw [e]
    rw [h0] at ci
    clear e h0
    go_enter Tryf.func10, Tryf.ntmps10
    go_wp2_with fail
    go_ret
    exact ⟨rfl, rfl⟩
  · have n0 : (((bt bs i : Nat) : Int) == 0) = false := by simp; omega
    by_cases h1 : bt bs i < 128
    · have d1 : decide (((bt bs i : Nat) : Int) < 128) = true := decide_eq_true (by omega)
      have e : badB bs i = false := by simp [badB, h0]; omega
      rw [e]
      clear e
      go_enter Tryf.func10, Tryf.ntmps10
      go_wp2_with fail
      go_ret
      exact ⟨rfl, rfl⟩
    · have d1 : decide (((bt bs i : Nat) : Int) < 128) = false := decide_eq_false (by omega)
      have e : badB bs i = !valid bs i := by simp [badB, h0]; omega
      rw [e]
      clear e
      go_enter Tryf.func10, Tryf.ntmps10
      go_wp2_with (go_at_call 33; refine C.out.mono ?_; rintro e w1 ⟨rfl, rfl⟩)
      go_ret
      exact ⟨rfl, rfl⟩

theorem bomAt_any (b o cap : Nat) (bs : List UInt8) (i : Nat) (w : World) (hi : i ≤ 1000) (hn : bs.length ≤ 2000000) (h : Row w b o cap bs) :
    Calls Tryf.prog 11 #[.slice (some ⟨b, o, none⟩) bs.length cap, .int .i64 i] w fun e w' => e = .returned (.bool (bomB bs i)) ∧ w = w' := by
  have HR := Lib.hid h
  clear h
  have p0 : decide ((0 : Int) ≤ (i : Int)) = true := decide_eq_true (by omega)
  by_cases k0 : i + 3 ≤ bs.length
  · have c0 := HR.out i (by omega)
    have c1 := HR.out (i + 1) (by omega)
    have c2 := HR.out (i + 2) (by omega)
    have p1 : decide ((i : Int) + 2 < (bs.length : Int)) = true := decide_eq_true (by omega)
    have i0 : (i : Int) < (bs.length : Int) := by omega
    have i1 : (i : Int) + 1 < (bs.length : Int) := by omega
    have i2 : (i : Int) + 2 < (bs.length : Int) := by omega
    by_cases k1 : bt bs i = 239
    · rw [k1] at c0
      by_cases k2 : bt bs (i + 1) = 187
      · rw [k2] at c1
        by_cases k3 : bt bs (i + 2) = 191
        · rw [k3] at c2
          have e : bomB bs i = true := by unfold bomB; exact decide_eq_true ⟨k0, k1, k2, k3⟩
          rw [e]
          clear e k1 k2 k3
          go_enter Tryf.func11, Tryf.ntmps11
          go_wp2_with fail
          go_ret
          exact ⟨rfl, rfl⟩
        · have q : (((bt bs (i + 2) : Nat) : Int) == 191) = false := by simp; omega
          have e : bomB bs i = false := by unfold bomB; exact decide_eq_false (by omega)
          rw [e]
          clear e k1 k2 k3
          go_enter Tryf.func11, Tryf.ntmps11
          go_wp2_with fail
          go_ret
          exact ⟨rfl, rfl⟩
      · have q : (((bt bs (i + 1) : Nat) : Int) == 187) = false := by simp; omega
        have e : bomB bs i = false := by unfold bomB; exact decide_eq_false (by omega)
        rw [e]
        clear e k1 k2
        go_enter Tryf.func11, Tryf.ntmps11
        go_wp2_with fail
        go_ret
        exact ⟨rfl, rfl⟩
    · have q : (((bt bs i : Nat) : Int) == 239) = false := by simp; omega
      have e : bomB bs i = false := by unfold bomB; exact decide_eq_false (by omega)
      rw [e]
      clear e k1
      go_enter Tryf.func11, Tryf.ntmps11
      go_wp2_with fail
      go_ret
      exact ⟨rfl, rfl⟩
  · have p1 : decide ((i : Int) + 2 < (bs.length : Int)) = false := decide_eq_false (by omega)
    have e : bomB bs i = false := by unfold bomB; exact decide_eq_false (by omega)
    rw [e]
    clear e
    go_enter Tryf.func11, Tryf.ntmps11
    go_wp2_with fail
    go_ret
    exact ⟨rfl, rfl⟩

/-! ### Plain: agreement with the decoder. -/
theorem validC_dec (n b0 b1 b2 b3 : Nat) (h0 : 128 ≤ b0) (h0' : b0 < 256) (h1 : b1 < 256) (h2 : b2 < 256) (h3 : b3 < 256) (hn : 1 ≤ n) (f : Nat → Nat → Nat → Bool)
    (f1 : ∀ lo hi, f 1 lo hi = decide (1 < n ∧ lo ≤ b1 ∧ b1 ≤ hi)) (f2 : ∀ lo hi, f 2 lo hi = decide (2 < n ∧ lo ≤ b2 ∧ b2 ≤ hi)) (f3 : ∀ lo hi, f 3 lo hi = decide (3 < n ∧ lo ≤ b3 ∧ b3 ≤ hi)) :
    (validC b0 f = false ↔ ((Lib.decodeN n b0 b1 b2 b3).1 = 65533 ∧ (Lib.decodeN n b0 b1 b2 b3).2 = 1)) := by
  unfold validC Lib.decodeN
  simp only [f1, f2, f3]
  rw [if_neg (by omega : ¬ b0 < 128)]
  have hcl : (194 ≤ b0 ∧ b0 ≤ 223) ∨ b0 = 224 ∨ b0 = 237 ∨ (225 ≤ b0 ∧ b0 ≤ 239 ∧ b0 ≠ 237) ∨ b0 = 240 ∨ (241 ≤ b0 ∧ b0 ≤ 243) ∨ b0 = 244 ∨ b0 < 194 ∨ 244 < b0 := by omega
  rcases hcl with h | h | h | h | h | h | h | h | h
  · rw [if_pos h]
    repeat' split
    all_goals simp only [Bool.and_eq_false_iff, decide_eq_false_iff_not]
    all_goals (constructor <;> intro hh <;> (first | exact ⟨trivial, trivial⟩ | omega))
  · rw [if_neg (by omega), if_pos h]
    repeat' split
    all_goals simp only [Bool.and_eq_false_iff, decide_eq_false_iff_not]
    all_goals (constructor <;> intro hh <;> (first | exact ⟨trivial, trivial⟩ | omega))
  · rw [if_neg (by omega), if_neg (by omega), if_pos h]
    repeat' split
    all_goals simp only [Bool.and_eq_false_iff, decide_eq_false_iff_not]
    all_goals (constructor <;> intro hh <;> (first | exact ⟨trivial, trivial⟩ | omega))
  · rw [if_neg (by omega), if_neg (by omega), if_neg (by omega), if_pos (by omega)]
    repeat' split
    all_goals simp only [Bool.and_eq_false_iff, decide_eq_false_iff_not]
    all_goals (constructor <;> intro hh <;> (first | exact ⟨trivial, trivial⟩ | omega))
  · rw [if_neg (by omega), if_neg (by omega), if_neg (by omega), if_neg (by omega), if_pos h]
    repeat' split
    all_goals simp only [Bool.and_eq_false_iff, decide_eq_false_iff_not]
    all_goals (constructor <;> intro hh <;> (first | exact ⟨trivial, trivial⟩ | omega))
  · rw [if_neg (by omega), if_neg (by omega), if_neg (by omega), if_neg (by omega), if_neg (by omega), if_pos h]
    repeat' split
    all_goals simp only [Bool.and_eq_false_iff, decide_eq_false_iff_not]
    all_goals (constructor <;> intro hh <;> (first | exact ⟨trivial, trivial⟩ | omega))
  · rw [if_neg (by omega), if_neg (by omega), if_neg (by omega), if_neg (by omega), if_neg (by omega), if_neg (by omega), if_pos h]
    repeat' split
    all_goals simp only [Bool.and_eq_false_iff, decide_eq_false_iff_not]
    all_goals (constructor <;> intro hh <;> (first | exact ⟨trivial, trivial⟩ | omega))
  · rw [if_neg (by omega), if_neg (by omega), if_neg (by omega), if_neg (by omega), if_neg (by omega), if_neg (by omega), if_neg (by omega)]
    repeat' split
    all_goals simp only []
    all_goals (constructor <;> intro hh <;> (first | exact ⟨trivial, trivial⟩ | trivial | rfl | omega))
  · rw [if_neg (by omega), if_neg (by omega), if_neg (by omega), if_neg (by omega), if_neg (by omega), if_neg (by omega), if_neg (by omega)]
    repeat' split
    all_goals simp only []
    all_goals (constructor <;> intro hh <;> (first | exact ⟨trivial, trivial⟩ | trivial | rfl | omega))
theorem valid_dec {bs : List UInt8} {i : Nat} (hi : i < bs.length) (h : 128 ≤ bt bs i) : valid bs i = false ↔ ((dec bs i).1 = 65533 ∧ (dec bs i).2 = 1) := by
  unfold valid dec
  refine validC_dec _ _ _ _ _ h (bt_lt bs i) (bt_lt bs _) (bt_lt bs _) (bt_lt bs _) (by omega) _ ?_ ?_ ?_
  all_goals
    intro lo hi
    unfold cont
    congr 1
    apply propext
    constructor <;> (intro h; omega)
theorem badB_iff {bs : List UInt8} {i : Nat} (hi : i < bs.length) : badB bs i = true ↔ ((dec bs i).1 = 0 ∨ ((dec bs i).1 = 65533 ∧ (dec bs i).2 = 1)) := by
  by_cases h : bt bs i < 128
  · rw [dec_ascii bs h]
    simp [badB]
    omega
  · have h2 := valid_dec hi (by omega)
    have h3 := dec_high bs (i := i) (by omega)
    have e : badB bs i = !valid bs i := by unfold badB; rw [decide_eq_false (by omega : ¬ bt bs i = 0), decide_eq_true (by omega : 128 ≤ bt bs i)]; simp
    rw [e, Bool.not_eq_true', h2]
    omega
theorem bomB_iff (bs : List UInt8) (i : Nat) : bomB bs i = true ↔ (dec bs i).1 = 65279 := by
  rw [dec_bom]
  unfold bomB
  exact decide_eq_true_iff
/-- The count at the start, as the law reckons it. -/
def want1 (bs : List UInt8) : Bool := decide (0 < bs.length) && badB bs 0
def want2 (bs : List UInt8) : Bool := bomB bs 0 && decide (3 < bs.length) && (badB bs 3 || bomB bs 3)
theorem count_eq (bs : List UInt8) : nxErr bs (bom bs) = (if want1 bs then 1 else 0) + (if want2 bs then 1 else 0) := by
  by_cases hb : bomB bs 0 = true
  · have hd := (bomB_iff bs 0).1 hb
    have hl := ((dec_bom bs 0).1 hd).1
    have e : bom bs = 3 := bom_yes ⟨by omega, ((dec_bom bs 0).1 hd).2⟩
    have n1 : badB bs 0 = false := by
      cases hh : badB bs 0 with
      | false => rfl
      | true => have := (badB_iff (by omega)).1 hh; omega
    rw [e]
    have w1 : want1 bs = false := by simp [want1, n1]
    rw [w1]
    by_cases h3 : 3 < bs.length
    · have w2 : want2 bs = (badB bs 3 || bomB bs 3) := by simp [want2, hb, h3]
      rw [w2]
      unfold nxErr bad
      have i1 := badB_iff (bs := bs) h3
      have i2 := bomB_iff bs 3
      by_cases k1 : badB bs 3 = true
      · rw [if_pos ⟨h3, by have := i1.1 k1; omega⟩]; simp [k1]
      · by_cases k2 : bomB bs 3 = true
        · rw [if_pos ⟨h3, by have := i2.1 k2; omega⟩]; simp [k2]
        · rw [if_neg (by rintro ⟨_, h⟩; rcases h with h | h | h
                         · exact k1 (i1.2 (.inl h))
                         · exact k1 (i1.2 (.inr h))
                         · exact k2 (i2.2 h.1))]
          simp [k1, k2]
    · have w2 : want2 bs = false := by simp [want2, h3]
      rw [w2]
      unfold nxErr
      rw [if_neg (by omega)]
      rfl
  · have e : bom bs = 0 := bom_no (by
      intro h
      apply hb
      unfold bomB
      exact decide_eq_true ⟨by omega, h.2⟩)
    have hb' : bomB bs 0 = false := by simpa using hb
    have w2 : want2 bs = false := by simp [want2, hb']
    rw [e, w2]
    by_cases h0 : 0 < bs.length
    · have i1 := badB_iff (bs := bs) h0
      have w1 : want1 bs = badB bs 0 := by simp [want1, h0]
      rw [w1]
      unfold nxErr bad
      by_cases k1 : badB bs 0 = true
      · rw [if_pos ⟨h0, by have := i1.1 k1; omega⟩]; simp [k1]
      · rw [if_neg (by rintro ⟨_, h⟩; rcases h with h | h | h
                       · exact k1 (i1.2 (.inl h))
                       · exact k1 (i1.2 (.inr h))
                       · omega)]
        simp [k1]
    · have w1 : want1 bs = false := by simp [want1, h0]
      rw [w1]
      unfold nxErr
      rw [if_neg (by omega)]
      rfl
end Go.Proofs.YtcaolpebjpilgaaFmt.Init
