/-
  Proved: the list of the text's characters, plain; n002_96's zzModelChars makes it.
  Conditions: the text lies in memory.
-/
import Derived.Test.YtcaolpebjpilgaaFmtDec96
import Derived.Laws.AppendOwn
import Derived.Shelf.Strconv.Quote
namespace Go.Proofs.YtcaolpebjpilgaaFmt.Dec96
open Go.ChangeShapes Go.WideShapes Go.ChangeAt Go.RowKit Core
set_option linter.unusedVariables false

/-- The places of the characters from p on. -/
def chs (bs : List UInt8) : Nat → Nat → List Nat
  | 0, _ => []
  | f + 1, p => if p < bs.length then p :: chs bs f (nxRd bs p) else []
theorem nxRd_gt {bs : List UInt8} {p : Nat} (h : p < bs.length) : p < nxRd bs p ∧ nxRd bs p ≤ bs.length := by
  have := dec_width bs h
  unfold nxRd
  rw [if_pos h]
  omega
theorem chs_end {bs : List UInt8} {f p : Nat} (h : bs.length ≤ p) : chs bs f p = [] := by
  cases f with
  | zero => rfl
  | succ f => unfold chs; rw [if_neg (by omega)]
theorem chs_cons {bs : List UInt8} {f p : Nat} (h : p < bs.length) (hf : bs.length - p ≤ f) : chs bs f p = p :: chs bs (f - 1) (nxRd bs p) := by
  cases f with
  | zero => omega
  | succ f => conv => lhs; unfold chs
              rw [if_pos h]; rfl
/-- More fuel does not matter. -/
theorem chs_fuel {bs : List UInt8} : ∀ {f g p : Nat}, bs.length - p ≤ f → bs.length - p ≤ g → chs bs f p = chs bs g p
  | f, g, p, hf, hg => by
    by_cases h : p < bs.length
    · rw [chs_cons h hf, chs_cons h hg]
      have := nxRd_gt h
      rw [chs_fuel (f := f - 1) (g := g - 1) (by omega) (by omega)]
    · rw [chs_end (by omega), chs_end (by omega)]
  termination_by f => f
  decreasing_by omega
/-- All of them, behind a byte order mark. -/
def chars (bs : List UInt8) : List Nat := chs bs bs.length (bom bs)
/-- The k-th place; the text's end behind the last one. -/
def place (bs : List UInt8) (k : Nat) : Nat := (chars bs).getD k bs.length
theorem chs_step {bs : List UInt8} : ∀ {f p k : Nat}, bs.length - p ≤ f → k < (chs bs f p).length → (chs bs f p).getD k bs.length < bs.length ∧ (chs bs f p).getD (k + 1) bs.length = nxRd bs ((chs bs f p).getD k bs.length)
  | f, p, k, hf, hk => by
    by_cases h : p < bs.length
    · rw [chs_cons h hf] at hk ⊢
      have hg := nxRd_gt h
      cases k with
      | zero =>
        refine ⟨by simpa using h, ?_⟩
        show (chs bs (f - 1) (nxRd bs p)).getD 0 bs.length = nxRd bs p
        by_cases h2 : nxRd bs p < bs.length
        · rw [chs_cons h2 (by omega)]; rfl
        · rw [chs_end (by omega)]; simp; omega
      | succ k =>
        have hk' : k < (chs bs (f - 1) (nxRd bs p)).length := by simpa using hk
        exact chs_step (f := f - 1) (p := nxRd bs p) (k := k) (by omega) hk'
    · rw [chs_end (by omega)] at hk
      simp at hk
  termination_by f => f
  decreasing_by omega
theorem place_zero (bs : List UInt8) : place bs 0 = bom bs := by
  unfold place chars
  by_cases h : bom bs < bs.length
  · rw [chs_cons h (by omega)]; rfl
  · rw [chs_end (by omega)]
    have := bom_le bs
    simp; omega
theorem place_step {bs : List UInt8} {k : Nat} (hk : k < (chars bs).length) : place bs k < bs.length ∧ place bs (k + 1) = nxRd bs (place bs k) := chs_step (by omega) hk
theorem place_end (bs : List UInt8) : place bs (chars bs).length = bs.length := by
  unfold place
  rw [List.getD_eq_getElem?_getD, List.getElem?_eq_none (by omega)]
  rfl
theorem place_le (bs : List UInt8) (k : Nat) (hk : k ≤ (chars bs).length) : place bs k ≤ bs.length := by
  rcases Nat.lt_or_ge k (chars bs).length with h | h
  · exact Nat.le_of_lt (place_step h).1
  · have : k = (chars bs).length := by omega
    rw [this, place_end]
    exact Nat.le_refl _
theorem chs_length {bs : List UInt8} : ∀ {f p : Nat}, (chs bs f p).length ≤ f
  | 0, p => by simp [chs]
  | f + 1, p => by
    unfold chs
    split
    · have := chs_length (bs := bs) (f := f) (p := nxRd bs p)
      simp; omega
    · simp

/-! ### The model's list, as the Go text makes it. -/
def badM (bs : List UInt8) (p : Nat) : Bool := decide ((dec bs p).1 = 0 ∨ ((dec bs p).1 = 65533 ∧ (dec bs p).2 = 1) ∨ (dec bs p).1 = 65279)
def recOf (bs : List UInt8) (p : Nat) : List Value := [.int .i64 p, .int .i32 (dec bs p).1, .bool (badM bs p)]
def recs (bs : List UInt8) (l : List Nat) : List Value := l.flatMap (recOf bs)
theorem recs_snoc (bs : List UInt8) (l : List Nat) (p : Nat) : recs bs (l ++ [p]) = recs bs l ++ recOf bs p := by simp [recs]
theorem recs_length (bs : List UInt8) (l : List Nat) : (recs bs l).length = 3 * l.length := by
  induction l with
  | nil => rfl
  | cons p l ih => simp only [recs, List.flatMap_cons, List.length_append, List.length_cons] at *; rw [ih]; simp [recOf]; omega
theorem recs_at (bs : List UInt8) : ∀ (l : List Nat) (k j : Nat), k < l.length → j < 3 → (recs bs l)[3 * k + j]? = (recOf bs (l.getD k 0))[j]?
  | [], k, j, hk, _ => by simp at hk
  | p :: l, 0, j, _, hj => by
    simp only [recs, List.flatMap_cons, Nat.mul_zero, Nat.zero_add]
    rw [List.getElem?_append_left (by simp [recOf]; omega)]
    rfl
  | p :: l, k + 1, j, hk, hj => by
    have := recs_at bs l k j (by simpa using hk) hj
    simp only [recs, List.flatMap_cons] at *
    rw [List.getElem?_append_right (by simp [recOf]; omega)]
    have e : 3 * (k + 1) + j - (recOf bs p).length = 3 * k + j := by simp [recOf]; omega
    rw [e, this]
    rfl
end Go.Proofs.YtcaolpebjpilgaaFmt.Dec96
