/-
  Proved: plain laws on a text's characters as Go's decoder sees them: their widths, how many there are, how many a prefix and a rest hold.
  Conditions: none.
-/
import Derived.Test.YtpniflbleihdoaaDoorBase
import Derived.Lib.DecodeN
namespace Go.Proofs.YtpniflbleihdoaaDoor.Core
open Go.RowKit
set_option linter.unusedVariables false

/-- Byte i; 0 behind the end. -/
def bt (bs : List UInt8) (i : Nat) : Nat := (bs.getD i 0).toNat
/-- The character that begins at byte i, and its width. -/
def dec (bs : List UInt8) (i : Nat) : Nat × Nat := Lib.decodeN (bs.length - i) (bt bs i) (bt bs (i + 1)) (bt bs (i + 2)) (bt bs (i + 3))
theorem bt_lt (bs : List UInt8) (i : Nat) : bt bs i < 256 := by unfold bt; exact (bs.getD i 0).toNat_lt
theorem decodeN_width (n b0 b1 b2 b3 : Nat) (hn : 1 ≤ n) : 1 ≤ (Lib.decodeN n b0 b1 b2 b3).2 ∧ (Lib.decodeN n b0 b1 b2 b3).2 ≤ n ∧ (Lib.decodeN n b0 b1 b2 b3).2 ≤ 4 := by
  unfold Lib.decodeN
  repeat' split
  all_goals (simp only; omega)
theorem decodeN_ascii (n b0 b1 b2 b3 : Nat) (h : b0 < 128) : Lib.decodeN n b0 b1 b2 b3 = (b0, 1) := by unfold Lib.decodeN; rw [if_pos h]
theorem dec_width (bs : List UInt8) {i : Nat} (h : i < bs.length) : 1 ≤ (dec bs i).2 ∧ i + (dec bs i).2 ≤ bs.length ∧ (dec bs i).2 ≤ 4 := by
  have := decodeN_width (bs.length - i) (bt bs i) (bt bs (i + 1)) (bt bs (i + 2)) (bt bs (i + 3)) (by omega)
  unfold dec
  omega
theorem dec_ascii (bs : List UInt8) {i : Nat} (h : bt bs i < 128) : dec bs i = (bt bs i, 1) := decodeN_ascii _ _ _ _ _ h
/-! ### A prefix, a rest. -/
theorem decodeN_cut (n m b0 b1 b2 b3 c1 c2 c3 : Nat) (hm : m ≤ n) (hw : (Lib.decodeN n b0 b1 b2 b3).2 ≤ m) (h1 : 1 < m → c1 = b1) (h2 : 2 < m → c2 = b2) (h3 : 3 < m → c3 = b3) : (Lib.decodeN m b0 c1 c2 c3).2 = (Lib.decodeN n b0 b1 b2 b3).2 := by
  by_cases m1 : 1 < m
  · have e1 := h1 m1
    subst e1
    by_cases m2 : 2 < m
    · have e2 := h2 m2
      subst e2
      by_cases m3 : 3 < m
      · have e3 := h3 m3
        subst e3
        unfold Lib.decodeN
        simp only [m1, m2, m3, show 1 < n by omega, show 2 < n by omega, show 3 < n by omega]
      · clear h3
        unfold Lib.decodeN at hw ⊢
        simp only [m1, m2, m3, show 1 < n by omega, show 2 < n by omega, true_and, false_and, and_false, if_false] at hw ⊢
        repeat' split
        all_goals first | rfl | (simp only [] at hw ⊢; omega) | skip
        all_goals (repeat' split at hw)
        all_goals first | rfl | (simp_all; done) | (exfalso; omega) | omega
    · clear h3 h2
      have m3 : ¬ 3 < m := by omega
      unfold Lib.decodeN at hw ⊢
      simp only [m1, m2, m3, show 1 < n by omega, true_and, false_and, and_false, if_false] at hw ⊢
      repeat' split
      all_goals (repeat' split at hw)
      all_goals first | rfl | (simp_all; done) | (exfalso; omega) | omega
  · clear h1 h2 h3
    have m2 : ¬ 2 < m := by omega
    have m3 : ¬ 3 < m := by omega
    unfold Lib.decodeN at hw ⊢
    simp only [m1, m2, m3, false_and, and_false, if_false] at hw ⊢
    repeat' split
    all_goals (repeat' split at hw)
    all_goals first | rfl | (simp_all; done) | (exfalso; omega) | omega
theorem bt_take {bs : List UInt8} {p i : Nat} (h : i < p) : bt (bs.take p) i = bt bs i := by
  unfold bt
  rw [List.getD_eq_getElem?_getD, List.getElem?_take, if_pos h, ← List.getD_eq_getElem?_getD]
theorem bt_dropped (bs : List UInt8) (p i : Nat) : bt (bs.drop p) i = bt bs (p + i) := by
  unfold bt
  rw [List.getD_eq_getElem?_getD, List.getElem?_drop, ← List.getD_eq_getElem?_getD]
theorem dec_take {bs : List UInt8} {p q : Nat} (hp : p ≤ bs.length) (hq : q < p) (hw : q + (dec bs q).2 ≤ p) : (dec (bs.take p) q).2 = (dec bs q).2 := by
  have hl : (bs.take p).length = p := by rw [List.length_take]; omega
  unfold dec at hw ⊢
  rw [hl, bt_take hq]
  exact decodeN_cut _ _ _ _ _ _ _ _ _ (by omega) (by omega) (fun h => bt_take (by omega)) (fun h => bt_take (by omega)) (fun h => bt_take (by omega))
theorem dec_drop (bs : List UInt8) (p q : Nat) : dec (bs.drop p) q = dec bs (p + q) := by
  unfold dec
  rw [List.length_drop, bt_dropped, bt_dropped, bt_dropped, bt_dropped, show bs.length - p - q = bs.length - (p + q) by omega]
  rfl

/-! ### How many. -/
def cnt (bs : List UInt8) : Nat → Nat → Nat
  | 0, _ => 0
  | f + 1, p => if p < bs.length then cnt bs f (p + (dec bs p).2) + 1 else 0
/-- The characters from byte p on. -/
def count (bs : List UInt8) (p : Nat) : Nat := cnt bs (bs.length - p) p
theorem cnt_end {bs : List UInt8} {f p : Nat} (h : bs.length ≤ p) : cnt bs f p = 0 := by
  cases f with
  | zero => rfl
  | succ f => unfold cnt; rw [if_neg (by omega)]
theorem cnt_cons {bs : List UInt8} {f p : Nat} (h : p < bs.length) (hf : bs.length - p ≤ f) : cnt bs f p = cnt bs (f - 1) (p + (dec bs p).2) + 1 := by
  cases f with
  | zero => omega
  | succ f => conv => lhs; unfold cnt
              rw [if_pos h]; rfl
theorem cnt_fuel {bs : List UInt8} : ∀ {f g p : Nat}, bs.length - p ≤ f → bs.length - p ≤ g → cnt bs f p = cnt bs g p
  | f, g, p, hf, hg => by
    by_cases h : p < bs.length
    · rw [cnt_cons h hf, cnt_cons h hg]
      have := dec_width bs h
      rw [cnt_fuel (f := f - 1) (g := g - 1) (by omega) (by omega)]
    · rw [cnt_end (by omega), cnt_end (by omega)]
  termination_by f => f
  decreasing_by omega
theorem count_end {bs : List UInt8} {p : Nat} (h : bs.length ≤ p) : count bs p = 0 := cnt_end h
theorem count_step {bs : List UInt8} {p : Nat} (h : p < bs.length) : count bs p = count bs (p + (dec bs p).2) + 1 := by
  have := dec_width bs h
  unfold count
  rw [cnt_cons h (Nat.le_refl _), cnt_fuel (f := bs.length - p - 1) (g := bs.length - (p + (dec bs p).2)) (by omega) (by omega)]
theorem cnt_le {bs : List UInt8} : ∀ {f p : Nat}, cnt bs f p ≤ f
  | 0, p => Nat.le_refl _
  | f + 1, p => by
    unfold cnt
    split
    · have := cnt_le (bs := bs) (f := f) (p := p + (dec bs p).2); omega
    · omega
theorem count_le (bs : List UInt8) (p : Nat) : count bs p ≤ bs.length - p := cnt_le
theorem count_drop (bs : List UInt8) (p : Nat) : ∀ {f q : Nat}, bs.length - (p + q) ≤ f → cnt (bs.drop p) f q = cnt bs f (p + q)
  | 0, q, h => rfl
  | f + 1, q, h => by
    have hl : (bs.drop p).length = bs.length - p := List.length_drop
    by_cases hq : p + q < bs.length
    · have hw := dec_width bs hq
      unfold cnt
      rw [if_pos (by omega), if_pos hq, dec_drop, count_drop bs p (by omega), Nat.add_assoc]
    · rw [cnt_end (by omega), cnt_end (by omega)]
theorem count_rest (bs : List UInt8) (p : Nat) : count (bs.drop p) 0 = count bs p := by
  unfold count
  rw [count_drop bs p (by rw [List.length_drop]; omega), List.length_drop]
  rfl
/-- Where the k-th character begins. -/
def offs (bs : List UInt8) : Nat → Nat
  | 0 => 0
  | k + 1 => if offs bs k < bs.length then offs bs k + (dec bs (offs bs k)).2 else offs bs k
theorem offs_step {bs : List UInt8} {k : Nat} (h : offs bs k < bs.length) : offs bs (k + 1) = offs bs k + (dec bs (offs bs k)).2 := by
  conv => lhs; unfold offs
  rw [if_pos h]
theorem offs_le (bs : List UInt8) : ∀ k, offs bs k ≤ bs.length
  | 0 => Nat.zero_le _
  | k + 1 => by
    have := offs_le bs k
    unfold offs
    split
    · rename_i h; exact (dec_width bs h).2.1
    · exact this
theorem offs_mono (bs : List UInt8) (k : Nat) : offs bs k ≤ offs bs (k + 1) := by
  conv => rhs; unfold offs
  split <;> omega
/-- Each of the first k characters begins inside the text. -/
def Reach (bs : List UInt8) (k : Nat) : Prop := k = 0 ∨ offs bs (k - 1) < bs.length
theorem Reach.down {bs : List UInt8} {k : Nat} (h : Reach bs (k + 1)) : Reach bs k ∧ offs bs k < bs.length := by
  have h1 : offs bs k < bs.length := by
    rcases h with h | h
    · omega
    · exact h
  refine ⟨?_, h1⟩
  cases k with
  | zero => exact .inl rfl
  | succ k => exact .inr (by have := offs_mono bs k; simp; omega)
theorem reach_count {bs : List UInt8} : ∀ {k : Nat}, Reach bs k → count bs 0 = k + count bs (offs bs k)
  | 0, _ => by simp [offs]
  | k + 1, h => by
    obtain ⟨h1, h2⟩ := h.down
    rw [reach_count h1, count_step h2, offs_step h2]
    omega
theorem offs_mono_le (bs : List UInt8) {j k : Nat} (h : j ≤ k) : offs bs j ≤ offs bs k := by
  induction h with
  | refl => exact Nat.le_refl _
  | step _ ih => exact Nat.le_trans ih (offs_mono bs _)
theorem reach_le {bs : List UInt8} {k : Nat} (h : Reach bs k) : k ≤ bs.length := by
  have := reach_count h
  have h2 := count_le bs 0
  omega
/-- The prefix up to the k-th character holds k of them. -/
theorem count_prefix {bs : List UInt8} {k : Nat} (h : Reach bs k) : count (bs.take (offs bs k)) 0 = k := by
  have hl : (bs.take (offs bs k)).length = offs bs k := by rw [List.length_take]; have := offs_le bs k; omega
  have main : ∀ j, j ≤ k → count (bs.take (offs bs k)) 0 = j + count (bs.take (offs bs k)) (offs bs j) := by
    intro j
    induction j with
    | zero => intro _; simp [offs]
    | succ j ih =>
      intro hj
      have hr : ∀ n, Reach bs (j + 1 + n) → Reach bs (j + 1) := by
        intro n
        induction n with
        | zero => exact fun h => h
        | succ n ihn => exact fun h => ihn (Reach.down h).1
      have hR : Reach bs (j + 1) := hr (k - (j + 1)) (by rw [show j + 1 + (k - (j + 1)) = k by omega]; exact h)
      obtain ⟨_, h2⟩ := hR.down
      have hs := offs_step h2
      have hw := dec_width bs h2
      have hm := offs_mono_le bs hj
      rw [ih (by omega), count_step (bs := bs.take (offs bs k)) (by rw [hl]; omega), dec_take (offs_le bs k) (by omega) (by omega), hs]
      omega
  rw [main k (Nat.le_refl _), count_end (by rw [hl]; exact Nat.le_refl _)]
  rfl
end Go.Proofs.YtpniflbleihdoaaDoor.Core
