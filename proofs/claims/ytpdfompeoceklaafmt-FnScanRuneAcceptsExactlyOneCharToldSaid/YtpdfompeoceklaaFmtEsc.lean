/-
  Proved: plain: what an escape sequence is and where it ends; a rune literal of one character; the end of a quoted string by a plain scan of bytes.
  Conditions: none.
-/
import Derived.Test.YtpdfompeoceklaaFmtNum
namespace Go.Proofs.YtpdfompeoceklaaFmt.Core
open Go.ChangeShapes Go.WideShapes Go.ChangeAt Go.RowKit
set_option linter.unusedVariables false

/-- n digits of a base from p on: all there?, where it stopped, the value. -/
def escDig (bs : List UInt8) (base : Nat) : Nat → Nat → Nat → Bool × Nat × Nat
  | 0, p, x => (true, p, x)
  | n + 1, p, x => if p < bs.length ∧ dv (bt bs p : Int) < base then escDig bs base n (p + 1) (x * base + dv (bt bs p : Int)) else (false, p, x)
def escVal (max : Nat) (r : Bool × Nat × Nat) : Bool × Nat := if r.1 then (decide (¬ (max < r.2.2 ∨ (55296 ≤ r.2.2 ∧ r.2.2 < 57344))), r.2.1) else (false, r.2.1)
/-- The letters of a simple escape. -/
def simple (c quote : Nat) : Bool := decide (c = 97 ∨ c = 98 ∨ c = 102 ∨ c = 110 ∨ c = 114 ∨ c = 116 ∨ c = 118 ∨ c = 92 ∨ c = quote)
/-- What scanEscape answers at p, and where it stands then. -/
def escF (bs : List UInt8) (p quote : Nat) : Bool × Nat :=
  if p < bs.length then
    if simple (bt bs p) quote then (true, p + 1)
    else if 48 ≤ bt bs p ∧ bt bs p ≤ 55 then escVal 255 (escDig bs 8 3 p 0)
    else if bt bs p = 120 then escVal 255 (escDig bs 16 2 (p + 1) 0)
    else if bt bs p = 117 then escVal 1114111 (escDig bs 16 4 (p + 1) 0)
    else if bt bs p = 85 then escVal 1114111 (escDig bs 16 8 (p + 1) 0)
    else (false, p)
  else (false, p)

theorem escDig_le (bs : List UInt8) (base : Nat) : ∀ (n p x : Nat), p ≤ (escDig bs base n p x).2.1 ∧ (p ≤ bs.length → (escDig bs base n p x).2.1 ≤ bs.length) ∧ (∀ j, p ≤ j → j < (escDig bs base n p x).2.1 → j < bs.length ∧ dv (bt bs j : Int) < base) ∧ (escDig bs base n p x).2.1 ≤ p + n
  | 0, p, x => ⟨Nat.le_refl _, fun h => h, fun j a b => absurd b (by simp [escDig]; omega), by simp [escDig]⟩
  | n + 1, p, x => by
    unfold escDig
    split
    · rename_i h
      obtain ⟨a, b, c, d⟩ := escDig_le bs base n (p + 1) (x * base + dv (bt bs p : Int))
      refine ⟨by omega, fun _ => b (by omega), fun j h1 h2 => ?_, by omega⟩
      by_cases e : j = p
      · subst e; exact h
      · exact c j (by omega) h2
    · exact ⟨Nat.le_refl _, fun h => h, fun j a b => absurd b (by simp; omega), by simp⟩
theorem escVal_pos (max : Nat) (r : Bool × Nat × Nat) : (escVal max r).2 = r.2.1 := by unfold escVal; split <;> rfl
/-- Bytes that end or shield nothing in a quoted string. -/
def quiet (c : Nat) : Prop := c ≠ 10 ∧ c ≠ 34 ∧ c ≠ 92
theorem escF_le {bs : List UInt8} {p quote : Nat} (hp : p ≤ bs.length) : p ≤ (escF bs p quote).2 ∧ (escF bs p quote).2 ≤ bs.length := by
  unfold escF
  repeat' split
  all_goals (try rw [escVal_pos])
  · simp only; omega
  · have h := escDig_le bs 8 3 p 0; exact ⟨h.1, h.2.1 hp⟩
  · have h := escDig_le bs 16 2 (p + 1) 0; exact ⟨by omega, h.2.1 (by omega)⟩
  · have h := escDig_le bs 16 4 (p + 1) 0; exact ⟨by omega, h.2.1 (by omega)⟩
  · have h := escDig_le bs 16 8 (p + 1) 0; exact ⟨by omega, h.2.1 (by omega)⟩
  · exact ⟨Nat.le_refl _, hp⟩
  · exact ⟨Nat.le_refl _, hp⟩
theorem dv_quiet {c : Nat} (h : dv (c : Int) < 16) : quiet c := by
  have := dv_ascii h
  unfold dv at h
  unfold quiet
  repeat' split at h
  all_goals omega
/-- Of what an escape in a string takes, only a backslash or a quote at its head matters to the end. -/
theorem escF_quiet {bs : List UInt8} {p : Nat} (h : ¬ (p < bs.length ∧ (bt bs p = 92 ∨ bt bs p = 34))) : ∀ j, p ≤ j → j < (escF bs p 34).2 → j < bs.length ∧ quiet (bt bs j) := by
  intro j h1 h2
  unfold escF at h2
  by_cases hp : p < bs.length
  · rw [if_pos hp] at h2
    have hn : bt bs p ≠ 92 ∧ bt bs p ≠ 34 := by omega
    have head : ∀ (n : Nat), j < (escDig bs 16 n (p + 1) 0).2.1 → quiet (bt bs p) → j < bs.length ∧ quiet (bt bs j) := by
      intro n hj hq
      by_cases e : j = p
      · subst e; exact ⟨hp, hq⟩
      · have := (escDig_le bs 16 n (p + 1) 0).2.2.1 j (by omega) hj
        exact ⟨this.1, dv_quiet this.2⟩
    by_cases c1 : simple (bt bs p) 34 = true
    · rw [if_pos c1] at h2
      have : j = p := by simp only at h2; omega
      subst this
      have c2 : bt bs j = 97 ∨ bt bs j = 98 ∨ bt bs j = 102 ∨ bt bs j = 110 ∨ bt bs j = 114 ∨ bt bs j = 116 ∨ bt bs j = 118 ∨ bt bs j = 92 ∨ bt bs j = 34 := by simpa [simple] using c1
      exact ⟨hp, by unfold quiet; omega⟩
    · rw [if_neg c1] at h2
      by_cases c2 : 48 ≤ bt bs p ∧ bt bs p ≤ 55
      · rw [if_pos c2, escVal_pos] at h2
        have := (escDig_le bs 8 3 p 0).2.2.1 j h1 h2
        exact ⟨this.1, dv_quiet (by omega)⟩
      · rw [if_neg c2] at h2
        by_cases c3 : bt bs p = 120
        · rw [if_pos c3, escVal_pos] at h2
          exact head 2 h2 (by unfold quiet; omega)
        · rw [if_neg c3] at h2
          by_cases c4 : bt bs p = 117
          · rw [if_pos c4, escVal_pos] at h2
            exact head 4 h2 (by unfold quiet; omega)
          · rw [if_neg c4] at h2
            by_cases c5 : bt bs p = 85
            · rw [if_pos c5, escVal_pos] at h2
              exact head 8 h2 (by unfold quiet; omega)
            · rw [if_neg c5] at h2
              simp only at h2; omega
  · rw [if_neg hp] at h2
    simp only at h2; omega
theorem escF_pair {bs : List UInt8} {p : Nat} (hp : p < bs.length) (h : bt bs p = 92 ∨ bt bs p = 34) : escF bs p 34 = (true, p + 1) := by
  unfold escF
  rw [if_pos hp, if_pos]
  unfold simple
  exact decide_eq_true (by omega)

/-! ### The end of a quoted string. -/
def strEnd (bs : List UInt8) (i : Nat) : Nat × Bool :=
  if h : i < bs.length then
    if bt bs i = 10 then (i, false)
    else if bt bs i = 34 then (i + 1, true)
    else if bt bs i = 92 ∧ i + 1 < bs.length ∧ (bt bs (i + 1) = 92 ∨ bt bs (i + 1) = 34) then strEnd bs (i + 2)
    else strEnd bs (i + 1)
  else (bs.length, false)
  termination_by bs.length - i
  decreasing_by all_goals omega
theorem strEnd_end {bs : List UInt8} {i : Nat} (h : bs.length ≤ i) : strEnd bs i = (bs.length, false) := by rw [strEnd, dif_neg (by omega)]
theorem strEnd_nl {bs : List UInt8} {i : Nat} (h : i < bs.length) (hc : bt bs i = 10) : strEnd bs i = (i, false) := by rw [strEnd, dif_pos h, if_pos hc]
theorem strEnd_quote {bs : List UInt8} {i : Nat} (h : i < bs.length) (hc : bt bs i = 34) : strEnd bs i = (i + 1, true) := by rw [strEnd, dif_pos h, if_neg (by omega), if_pos hc]
theorem strEnd_pair {bs : List UInt8} {i : Nat} (h : i + 1 < bs.length) (hc : bt bs i = 92) (hd : bt bs (i + 1) = 92 ∨ bt bs (i + 1) = 34) : strEnd bs i = strEnd bs (i + 2) := by
  conv => lhs; rw [strEnd]
  rw [dif_pos (by omega), if_neg (by omega), if_neg (by omega), if_pos ⟨hc, h, hd⟩]
theorem strEnd_one {bs : List UInt8} {i : Nat} (h : i < bs.length) (h1 : bt bs i ≠ 10) (h2 : bt bs i ≠ 34) (h3 : ¬ (bt bs i = 92 ∧ i + 1 < bs.length ∧ (bt bs (i + 1) = 92 ∨ bt bs (i + 1) = 34))) : strEnd bs i = strEnd bs (i + 1) := by
  conv => lhs; rw [strEnd]
  rw [dif_pos h, if_neg h1, if_neg h2, if_neg h3]
theorem strEnd_run {bs : List UInt8} : ∀ {p q : Nat}, p ≤ q → (∀ j, p ≤ j → j < q → j < bs.length ∧ quiet (bt bs j)) → strEnd bs p = strEnd bs q
  | p, q, h1, h2 => by
    by_cases h : p < q
    · obtain ⟨a, b⟩ := h2 p (Nat.le_refl _) h
      rw [strEnd_one a b.1 b.2.1 (fun hh => b.2.2 hh.1)]
      exact strEnd_run (p := p + 1) (by omega) (fun j c d => h2 j (by omega) d)
    · have : p = q := by omega
      rw [this]
  termination_by p q => q - p
  decreasing_by omega
/-- A character that is no newline, quote or backslash. -/
theorem strEnd_char {bs : List UInt8} {p : Nat} (h : p < bs.length) (hq : quiet (bt bs p)) : strEnd bs p = strEnd bs (nxRd bs p) := by
  have hg := nxRd_gt h
  refine strEnd_run (by omega) (fun j a b => ⟨by omega, ?_⟩)
  by_cases ha : bt bs p < 128
  · rw [(nx_ascii h ha).2] at b
    have : j = p := by omega
    subst this; exact hq
  · have := nx_wide h (by omega) a b
    unfold quiet; omega
theorem strEnd_le {bs : List UInt8} : ∀ {i : Nat}, i ≤ bs.length → i ≤ (strEnd bs i).1 ∧ (strEnd bs i).1 ≤ bs.length
  | i, h => by
    by_cases hi : i < bs.length
    · by_cases h1 : bt bs i = 10
      · rw [strEnd_nl hi h1]; exact ⟨Nat.le_refl _, h⟩
      · by_cases h2 : bt bs i = 34
        · rw [strEnd_quote hi h2]; exact ⟨by simp, hi⟩
        · by_cases h3 : bt bs i = 92 ∧ i + 1 < bs.length ∧ (bt bs (i + 1) = 92 ∨ bt bs (i + 1) = 34)
          · rw [strEnd_pair h3.2.1 h3.1 h3.2.2]
            have := strEnd_le (bs := bs) (i := i + 2) (by omega)
            omega
          · rw [strEnd_one hi h1 h2 h3]
            have := strEnd_le (bs := bs) (i := i + 1) (by omega)
            omega
    · rw [strEnd_end (by omega)]; exact ⟨h, Nat.le_refl _⟩
  termination_by i => bs.length - i
  decreasing_by all_goals omega

/-! ### A rune literal of one character. -/
def oneEnd (bs : List UInt8) : Option Nat :=
  if 1 < bs.length then
    if bt bs 1 = 92 then (if (escF bs 2 39).1 then some (escF bs 2 39).2 else none)
    else if bt bs 1 = 39 ∨ bt bs 1 = 10 then none else some 2
  else none
def accept (bs : List UInt8) : Bool := match oneEnd bs with
  | some q => atB bs q 39
  | none => false
/-- The escape is local: what is taken decides, where it is well formed. -/
theorem escDig_local {bs cs : List UInt8} {a b m base : Nat} (hag : ∀ j, j < m → bt bs (a + j) = bt cs (b + j)) (ha : a + m ≤ bs.length) (hb : b + m ≤ cs.length) :
    ∀ (n i x : Nat), (escDig bs base n (a + i) x).1 = true → (escDig bs base n (a + i) x).2.1 ≤ a + m → (escDig cs base n (b + i) x) = (true, b + i + n, (escDig bs base n (a + i) x).2.2) ∧ (escDig bs base n (a + i) x).2.1 = a + i + n
  | 0, i, x => fun _ _ => by simp [escDig]
  | n + 1, i, x => by
    intro h1 h2
    unfold escDig at h1 h2 ⊢
    by_cases h : a + i < bs.length ∧ dv (bt bs (a + i) : Int) < base
    · rw [if_pos h] at h1 h2 ⊢
      have hle := (escDig_le bs base n (a + i + 1) (x * base + dv (bt bs (a + i) : Int))).1
      have hi : i < m := by omega
      have e := hag i hi
      rw [← e, if_pos ⟨by omega, h.2⟩]
      have := escDig_local hag ha hb n (i + 1) (x * base + dv (bt bs (a + i) : Int)) h1 h2
      refine ⟨?_, ?_⟩
      · rw [show b + i + 1 = b + (i + 1) by omega, this.1]
        congr 2
        omega
      · have h3 := this.2
        rw [show a + i + 1 = a + (i + 1) by omega]
        omega
    · rw [if_neg h] at h1
      cases h1
theorem escVal_true {max : Nat} {r : Bool × Nat × Nat} (h : (escVal max r).1 = true) : r.1 = true := by
  unfold escVal at h
  cases hr : r.1 with
  | true => rfl
  | false => rw [hr] at h; cases h
theorem escF_local {bs cs : List UInt8} {a b m quote : Nat} (hag : ∀ j, j < m → bt bs (a + j) = bt cs (b + j)) (ha : a + m ≤ bs.length) (hb : b + m ≤ cs.length) (h1 : (escF bs a quote).1 = true) (h2 : (escF bs a quote).2 ≤ a + m) :
    escF cs b quote = (true, b + ((escF bs a quote).2 - a)) ∧ a < (escF bs a quote).2 := by
  unfold escF at h1 h2 ⊢
  by_cases hp : a < bs.length
  · rw [if_pos hp] at h1 h2 ⊢
    have one : ∀ (max base n : Nat) (c : Nat), bt bs a = c → (escVal max (escDig bs base n (a + 1) 0)).1 = true → (escVal max (escDig bs base n (a + 1) 0)).2 ≤ a + m → 0 < m ∧ escVal max (escDig cs base n (b + 1) 0) = (true, b + 1 + n) ∧ (escVal max (escDig bs base n (a + 1) 0)).2 = a + 1 + n := by
      intro max base n c hc k1 k2
      rw [escVal_pos] at k2
      have hle := (escDig_le bs base n (a + 1) 0).1
      have := escDig_local hag ha hb n 1 0 (escVal_true k1) k2
      refine ⟨by omega, ?_, ?_⟩
      · rw [this.1]
        unfold escVal at k1 ⊢
        rw [if_pos (escVal_true (max := max) (by unfold escVal; exact k1))] at k1
        simp only [if_true]
        simp only at k1
        rw [k1]
      · rw [escVal_pos]; omega
    by_cases c1 : simple (bt bs a) quote = true
    · rw [if_pos c1] at h1 h2 ⊢
      simp only at h2
      have e := hag 0 (by omega)
      rw [Nat.add_zero, Nat.add_zero] at e
      rw [← e, if_pos (by omega), if_pos c1]
      simp
    · rw [if_neg c1] at h1 h2 ⊢
      by_cases c2 : 48 ≤ bt bs a ∧ bt bs a ≤ 55
      · rw [if_pos c2] at h1 h2 ⊢
        have k2 := h2
        rw [escVal_pos] at k2
        have hle := (escDig_le bs 8 3 a 0).1
        have := escDig_local hag ha hb 3 0 0 (escVal_true h1) k2
        simp only [Nat.add_zero] at this
        have e := hag 0 (by omega)
        rw [Nat.add_zero, Nat.add_zero] at e
        rw [← e, if_pos (by omega), if_neg c1, if_pos c2, escVal_pos, this.1]
        refine ⟨?_, by omega⟩
        unfold escVal at h1 ⊢
        rw [if_pos (escVal_true (max := 255) (by unfold escVal; exact h1))] at h1
        simp only [if_true]
        simp only at h1
        rw [h1]
        congr 1
        omega
      · rw [if_neg c2] at h1 h2 ⊢
        have fin : ∀ (max n : Nat) (c : Nat), bt bs a = c → (escVal max (escDig bs 16 n (a + 1) 0)).1 = true → (escVal max (escDig bs 16 n (a + 1) 0)).2 ≤ a + m → (b < cs.length ∧ bt cs b = bt bs a) ∧ escVal max (escDig cs 16 n (b + 1) 0) = (true, b + ((escVal max (escDig bs 16 n (a + 1) 0)).2 - a)) ∧ a < (escVal max (escDig bs 16 n (a + 1) 0)).2 := by
          intro max n c hc k1 k2
          obtain ⟨z1, z2, z3⟩ := one max 16 n c hc k1 k2
          have e := hag 0 z1
          rw [Nat.add_zero, Nat.add_zero] at e
          refine ⟨⟨by omega, e.symm⟩, ?_, by omega⟩
          rw [z2, z3]
          congr 1
          omega
        by_cases c3 : bt bs a = 120
        · rw [if_pos c3] at h1 h2 ⊢
          obtain ⟨⟨z1, z2⟩, z3, z4⟩ := fin _ _ _ c3 h1 h2
          rw [if_pos z1, z2, if_neg c1, if_neg c2, if_pos c3]
          exact ⟨z3, z4⟩
        · rw [if_neg c3] at h1 h2 ⊢
          by_cases c4 : bt bs a = 117
          · rw [if_pos c4] at h1 h2 ⊢
            obtain ⟨⟨z1, z2⟩, z3, z4⟩ := fin _ _ _ c4 h1 h2
            rw [if_pos z1, z2, if_neg c1, if_neg c2, if_neg c3, if_pos c4]
            exact ⟨z3, z4⟩
          · rw [if_neg c4] at h1 h2 ⊢
            by_cases c5 : bt bs a = 85
            · rw [if_pos c5] at h1 h2 ⊢
              obtain ⟨⟨z1, z2⟩, z3, z4⟩ := fin _ _ _ c5 h1 h2
              rw [if_pos z1, z2, if_neg c1, if_neg c2, if_neg c3, if_neg c4, if_pos c5]
              exact ⟨z3, z4⟩
            · rw [if_neg c5] at h1
              cases h1
  · rw [if_neg hp] at h1
    cases h1
end Go.Proofs.YtpdfompeoceklaaFmt.Core
