/-
  Proved: what strconv.Quote gives of an ASCII text is the law's own model of it, byte by byte; plain, no program in sight.
  Conditions: every byte is below 128.
-/
import Derived.Lib.QuoteLoop
import Derived.Lib.PrintData
import Derived.Lib.DecodeN
import Derived.Laws.RangeString
namespace Go.Proofs.YtpniflbleihdoaaDoor.QPlain
open Go Go.Lib

def smp (c : Nat) : Nat := if c = 7 then 97 else if c = 8 then 98 else if c = 12 then 102 else if c = 10 then 110 else if c = 13 then 114 else if c = 9 then 116 else if c = 11 then 118 else 0
def escM (c : Nat) : List Int :=
  if c = 34 ∨ c = 92 then [92, (c : Int)] else if 32 ≤ c ∧ c < 127 then [(c : Int)] else if smp c ≠ 0 then [92, (smp c : Int)] else [92, 120, hexDigit (c / 16), hexDigit (c % 16)]
def flat (l : List UInt8) : List Int := l.flatMap fun b => escM b.toNat
def mdl (s : ByteArray) : List Int := 34 :: (flat s.data.toList ++ [34])

theorem esc_eq : ∀ c ∈ List.range 128, escRune goPrintTabs (c : Int) = escM c := by decide +kernel
theorem escM_len (c : Nat) : (escM c).length ≤ 4 := by
  unfold escM
  split
  · simp
  · split
    · simp
    · split <;> simp
theorem flat_len : ∀ (l : List UInt8), (flat l).length ≤ 4 * l.length
  | [] => by simp [flat]
  | b :: l => by
    have h1 := escM_len b.toNat
    have h2 := flat_len l
    simp only [flat, List.flatMap_cons, List.length_append, List.length_cons] at *
    omega
theorem flat_snoc (l : List UInt8) (b : UInt8) : flat (l ++ [b]) = flat l ++ escM b.toNat := by simp [flat]

theorem quote_flat : ∀ (l : List UInt8) (f : Nat), (∀ b ∈ l, b.toNat < 128) → l.length ≤ f → quoteFrom goPrintTabs f ⟨l.toArray⟩ = flat l
  | [], f, _, _ => by rw [quoteFrom_end _ _ _ (by show ¬ 0 < ([] : List UInt8).toArray.size; simp)]; rfl
  | b :: l, f, h, hf => by
    have hs : (⟨(b :: l).toArray⟩ : ByteArray).size = l.length + 1 := by show (b :: l).toArray.size = _; simp
    have h0 : 0 < (⟨(b :: l).toArray⟩ : ByteArray).size := by rw [hs]; omega
    have hb := h b (by simp)
    have e0 : (⟨(b :: l).toArray⟩ : ByteArray)[0]'h0 = b := rfl
    have hd : Utf8.decode (⟨(b :: l).toArray⟩ : ByteArray) 0 = (b.toNat, 1) := by
      rw [decode_ascii _ 0 h0 (by rw [e0]; exact hb), e0]
    rw [quoteFrom_step _ _ _ h0 (by rw [hs]; simpa using hf), quoteStep_good _ _ (by rw [hd]; simp; omega), hd]
    have e1 : (⟨(b :: l).toArray⟩ : ByteArray).extract 1 (⟨(b :: l).toArray⟩ : ByteArray).size = ⟨l.toArray⟩ := by
      apply ByteArray.ext
      rw [hs]
      simp
    show escRune goPrintTabs (b.toNat : Int) ++ quoteFrom goPrintTabs (f - 1) ((⟨(b :: l).toArray⟩ : ByteArray).extract 1 (⟨(b :: l).toArray⟩ : ByteArray).size) = _
    rw [e1, quote_flat l (f - 1) (fun x hx => h x (by simp [hx])) (by simp at hf; omega), esc_eq b.toNat (by simp; omega)]
    simp [flat]
theorem quote_mdl (s : ByteArray) (h : ∀ b ∈ s.data.toList, b.toNat < 128) : quoteZ goPrintTabs s = mdl s := by
  have e : s = ⟨s.data.toList.toArray⟩ := by cases s; simp
  have hs : s.size = s.data.toList.length := by show s.data.size = _; simp
  unfold quoteZ mdl
  rw [hs]
  conv => lhs; rw [e]
  rw [quote_flat _ _ h (by simp)]
end Go.Proofs.YtpniflbleihdoaaDoor.QPlain
