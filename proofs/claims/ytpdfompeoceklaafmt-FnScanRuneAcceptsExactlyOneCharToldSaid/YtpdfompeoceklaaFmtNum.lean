/-
  Proved: plain: a digit's value, a run of digits, where a number's literal ends; the literal alone ends at its own end.
  Conditions: none.
-/
import Derived.Test.YtpdfompeoceklaaFmtNx
namespace Go.Proofs.YtpdfompeoceklaaFmt.Core
open Go.ChangeShapes Go.WideShapes Go.ChangeAt Go.RowKit
set_option linter.unusedVariables false

/-- What digitVal answers. -/
def dv (c : Int) : Nat := if 48 ≤ c ∧ c ≤ 57 then (c - 48).toNat else if 97 ≤ c ∧ c ≤ 102 then (c - 87).toNat else if 65 ≤ c ∧ c ≤ 70 then (c - 55).toNat else 16
theorem dv_le (c : Int) : dv c ≤ 16 := by unfold dv; repeat' split
                                          all_goals omega
theorem dv_ascii {c : Int} (h : dv c < 16) : 48 ≤ c ∧ c ≤ 102 := by
  unfold dv at h
  repeat' split at h
  all_goals omega
def isDg (base : Nat) (c : Int) : Bool := decide (c = 95 ∨ dv c < base)
theorem isDg_ascii {base : Nat} {c : Int} (hb : base ≤ 16) (h : isDg base c = true) : 48 ≤ c ∧ c ≤ 102 := by
  have h' : c = 95 ∨ dv c < base := by simpa [isDg] using h
  rcases h' with h' | h'
  · omega
  · exact dv_ascii (by omega)
/-- The character is a digit just where the byte is. -/
theorem isDg_ch {bs : List UInt8} {p base : Nat} (hb : base ≤ 16) : isDg base (nxCh bs p) = true ↔ (p < bs.length ∧ isDg base (bt bs p : Int) = true) := by
  by_cases h : p < bs.length
  · by_cases ha : bt bs p < 128
    · rw [(nx_ascii h ha).1]; simp [h]
    · have h2 := nx_high h (by omega)
      constructor
      · intro hh; have := isDg_ascii hb hh; omega
      · intro hh; have := isDg_ascii hb hh.2; omega
  · rw [(nx_end (by omega)).1]
    constructor
    · intro hh; have := isDg_ascii hb hh; omega
    · intro hh; exact absurd hh.1 h
theorem dv_ch {bs : List UInt8} {p base : Nat} (hb : base ≤ 16) : dv (nxCh bs p) < base ↔ (p < bs.length ∧ dv (bt bs p : Int) < base) := by
  by_cases h : p < bs.length
  · by_cases ha : bt bs p < 128
    · rw [(nx_ascii h ha).1]; simp [h]
    · have h2 := nx_high h (by omega)
      constructor
      · intro hh; have := dv_ascii (c := nxCh bs p) (by omega); omega
      · intro hh; have := dv_ascii (c := (bt bs p : Int)) (by omega); omega
  · rw [(nx_end (by omega)).1]
    constructor
    · intro hh; have := dv_ascii (c := -1) (by omega); omega
    · intro hh; exact absurd hh.1 h

/-- Where a run of digits ends. -/
def digEnd (bs : List UInt8) (base p : Nat) : Nat := p + ((bs.drop p).takeWhile fun b => isDg base (b.toNat : Int)).length
theorem digEnd_step {bs : List UInt8} {base p : Nat} (h : p < bs.length) (hw : isDg base (bt bs p : Int) = true) : digEnd bs base (p + 1) = digEnd bs base p := by
  obtain ⟨b, h1, h2⟩ := bt_drop h
  unfold digEnd
  rw [h1, List.takeWhile_cons, if_pos (by rw [← h2]; exact hw), List.length_cons]
  omega
theorem digEnd_stop {bs : List UInt8} {base p : Nat} (h : p < bs.length → isDg base (bt bs p : Int) = false) : digEnd bs base p = p := by
  unfold digEnd
  by_cases hp : p < bs.length
  · obtain ⟨b, h1, h2⟩ := bt_drop hp
    rw [h1, List.takeWhile_cons, if_neg (by rw [← h2, h hp]; simp)]
    rfl
  · rw [List.drop_of_length_le (by omega)]
    rfl
theorem digEnd_le {bs : List UInt8} {base p : Nat} (h : p ≤ bs.length) : p ≤ digEnd bs base p ∧ digEnd bs base p ≤ bs.length := by
  have h1 := (List.takeWhile_sublist (p := fun b : UInt8 => isDg base (b.toNat : Int)) (l := bs.drop p)).length_le
  rw [List.length_drop] at h1
  unfold digEnd
  omega
theorem digEnd_spec {bs : List UInt8} {base : Nat} : ∀ {p q : Nat}, p ≤ q → q ≤ bs.length → (∀ j, p ≤ j → j < q → isDg base (bt bs j : Int) = true) → (q < bs.length → isDg base (bt bs q : Int) = false) → digEnd bs base p = q
  | p, q, h1, h2, h3, h4 => by
    by_cases h : p < q
    · rw [← digEnd_step (by omega) (h3 p (by omega) h)]
      exact digEnd_spec (p := p + 1) (by omega) h2 (fun j a b => h3 j (by omega) b) h4
    · have : p = q := by omega
      subst this
      exact digEnd_stop h4
  termination_by p q => q - p
  decreasing_by omega
theorem digEnd_all {bs : List UInt8} {base : Nat} : ∀ {p : Nat}, p ≤ bs.length → (∀ j, p ≤ j → j < digEnd bs base p → isDg base (bt bs j : Int) = true) ∧ (digEnd bs base p < bs.length → isDg base (bt bs (digEnd bs base p) : Int) = false)
  | p, h1 => by
    by_cases h : p < bs.length ∧ isDg base (bt bs p : Int) = true
    · have h2 := digEnd_all (bs := bs) (base := base) (p := p + 1) (by omega)
      rw [digEnd_step h.1 h.2] at h2
      refine ⟨fun j a b => ?_, h2.2⟩
      by_cases e : j = p
      · subst e; exact h.2
      · exact h2.1 j (by omega) b
    · have hs : p < bs.length → isDg base (bt bs p : Int) = false := by
        intro hp
        cases hh : isDg base (bt bs p : Int) with
        | false => rfl
        | true => exact absurd ⟨hp, hh⟩ h
      rw [digEnd_stop hs]
      exact ⟨fun j a b => absurd b (by omega), hs⟩
  termination_by p => bs.length - p
  decreasing_by omega
theorem bt_take {bs : List UInt8} {e j : Nat} (h : j < e) : bt (bs.take e) j = bt bs j := by
  unfold bt
  rw [List.getD_eq_getElem?_getD, List.getD_eq_getElem?_getD, List.getElem?_take, if_pos h]
theorem len_take {bs : List UInt8} {e : Nat} (h : e ≤ bs.length) : (bs.take e).length = e := by rw [List.length_take]; omega
theorem digEnd_take {bs : List UInt8} {base p e : Nat} (hp : p ≤ bs.length) (h1 : digEnd bs base p ≤ e) (h2 : e ≤ bs.length) : digEnd (bs.take e) base p = digEnd bs base p := by
  have hl := digEnd_le (base := base) hp
  have ha := digEnd_all (base := base) hp
  refine digEnd_spec hl.1 (by rw [len_take h2]; exact h1) (fun j a b => ?_) (fun hq => ?_)
  · rw [bt_take (by omega)]; exact ha.1 j a b
  · rw [len_take h2] at hq
    rw [bt_take hq]
    exact ha.2 (by omega)

/-- The byte c stands at p. -/
def atB (bs : List UInt8) (p c : Nat) : Bool := decide (p < bs.length ∧ bt bs p = c)
theorem atB_iff {bs : List UInt8} {p c : Nat} : atB bs p c = true ↔ (p < bs.length ∧ bt bs p = c) := by unfold atB; exact decide_eq_true_iff
theorem atB_take {bs : List UInt8} {q c e : Nat} (he : e ≤ bs.length) (h : atB bs q c = true → q < e) : atB (bs.take e) q c = atB bs q c := by
  rw [Bool.eq_iff_iff, atB_iff, atB_iff, len_take he]
  constructor
  · rintro ⟨a, b⟩
    rw [bt_take a] at b
    exact ⟨by omega, b⟩
  · intro hh
    have := h (atB_iff.2 hh)
    exact ⟨this, by rw [bt_take this]; exact hh.2⟩
/-- The base that the prefix names. -/
def baseOf (bs : List UInt8) (p : Nat) : Nat :=
  if atB bs p 48 && (atB bs (p + 1) 98 || atB bs (p + 1) 66) then 2 else if atB bs p 48 && (atB bs (p + 1) 111 || atB bs (p + 1) 79) then 8 else if atB bs p 48 && (atB bs (p + 1) 120 || atB bs (p + 1) 88) then 16 else 10
def preEnd (bs : List UInt8) (p : Nat) : Nat := if baseOf bs p = 10 then p else p + 2
def wholeEnd (bs : List UInt8) (p : Nat) : Nat := digEnd bs (baseOf bs p) (preEnd bs p)
def isDot (bs : List UInt8) (p : Nat) : Bool := atB bs (wholeEnd bs p) 46 && (baseOf bs p == 10 || baseOf bs p == 16)
def fracEnd (bs : List UInt8) (p : Nat) : Nat := if isDot bs p then digEnd bs (baseOf bs p) (wholeEnd bs p + 1) else wholeEnd bs p
def isExp (bs : List UInt8) (q : Nat) : Bool := atB bs q 101 || atB bs q 69 || atB bs q 112 || atB bs q 80
def signEnd (bs : List UInt8) (q : Nat) : Nat := if atB bs q 45 || atB bs q 43 then q + 1 else q
def expEnd (bs : List UInt8) (q : Nat) : Nat := digEnd bs 10 (signEnd bs (q + 1))
def numEnd (bs : List UInt8) (p : Nat) : Nat := if isExp bs (fracEnd bs p) then expEnd bs (fracEnd bs p) else fracEnd bs p
def numErr (bs : List UInt8) (p : Nat) : Int := if isExp bs (fracEnd bs p) && (signEnd bs (fracEnd bs p + 1) == expEnd bs (fracEnd bs p)) then 1 else 0
def numFloat (bs : List UInt8) (p : Nat) : Bool := isDot bs p || isExp bs (fracEnd bs p)

theorem baseOf_cases (bs : List UInt8) (p : Nat) : (baseOf bs p = 10) ∨ ((baseOf bs p = 2 ∨ baseOf bs p = 8 ∨ baseOf bs p = 16) ∧ p + 2 ≤ bs.length) := by
  unfold baseOf
  split
  · rename_i h
    simp [atB_iff] at h
    right; refine ⟨.inl rfl, ?_⟩
    rcases h.2 with h | h <;> omega
  · split
    · rename_i h
      simp [atB_iff] at h
      right; refine ⟨.inr (.inl rfl), ?_⟩
      rcases h.2 with h | h <;> omega
    · split
      · rename_i h
        simp [atB_iff] at h
        right; refine ⟨.inr (.inr rfl), ?_⟩
        rcases h.2 with h | h <;> omega
      · exact .inl rfl
theorem baseOf_le (bs : List UInt8) (p : Nat) : baseOf bs p ≤ 16 := by
  rcases baseOf_cases bs p with h | ⟨h, _⟩ <;> omega
theorem preEnd_le {bs : List UInt8} {p : Nat} (h : p ≤ bs.length) : p ≤ preEnd bs p ∧ preEnd bs p ≤ bs.length := by
  unfold preEnd
  rcases baseOf_cases bs p with h1 | ⟨h1, h2⟩
  · rw [if_pos h1]; omega
  · rw [if_neg (by omega)]; omega
theorem wholeEnd_le {bs : List UInt8} {p : Nat} (h : p ≤ bs.length) : preEnd bs p ≤ wholeEnd bs p ∧ wholeEnd bs p ≤ bs.length := digEnd_le (preEnd_le h).2
theorem isDot_lt {bs : List UInt8} {p : Nat} (h : isDot bs p = true) : wholeEnd bs p < bs.length := by
  unfold isDot at h
  simp only [Bool.and_eq_true, atB_iff] at h
  exact h.1.1
theorem fracEnd_le {bs : List UInt8} {p : Nat} (h : p ≤ bs.length) : wholeEnd bs p ≤ fracEnd bs p ∧ fracEnd bs p ≤ bs.length ∧ (isDot bs p = true → wholeEnd bs p < fracEnd bs p) := by
  have h1 := wholeEnd_le h
  unfold fracEnd
  by_cases hd : isDot bs p = true
  · rw [if_pos hd]
    have := digEnd_le (bs := bs) (base := baseOf bs p) (p := wholeEnd bs p + 1) (isDot_lt hd)
    omega
  · rw [if_neg hd]
    exact ⟨Nat.le_refl _, h1.2, fun h => absurd h hd⟩
theorem isExp_lt {bs : List UInt8} {q : Nat} (h : isExp bs q = true) : q < bs.length := by
  unfold isExp at h
  simp only [Bool.or_eq_true, atB_iff] at h
  omega
theorem signEnd_le {bs : List UInt8} {q : Nat} (h : q ≤ bs.length) : q ≤ signEnd bs q ∧ signEnd bs q ≤ bs.length := by
  unfold signEnd
  split
  · rename_i hh
    simp only [Bool.or_eq_true, atB_iff] at hh
    omega
  · omega
theorem expEnd_le {bs : List UInt8} {q : Nat} (h : q < bs.length) : signEnd bs (q + 1) ≤ expEnd bs q ∧ expEnd bs q ≤ bs.length ∧ q < expEnd bs q := by
  have h1 := signEnd_le (bs := bs) (q := q + 1) h
  have h2 := digEnd_le (bs := bs) (base := 10) h1.2
  unfold expEnd
  omega
theorem numEnd_le {bs : List UInt8} {p : Nat} (h : p ≤ bs.length) : fracEnd bs p ≤ numEnd bs p ∧ numEnd bs p ≤ bs.length ∧ (isExp bs (fracEnd bs p) = true → numEnd bs p = expEnd bs (fracEnd bs p)) := by
  have h1 := fracEnd_le h
  unfold numEnd
  by_cases he : isExp bs (fracEnd bs p) = true
  · rw [if_pos he]
    have := expEnd_le (isExp_lt he)
    exact ⟨by omega, by omega, fun _ => rfl⟩
  · rw [if_neg he]
    exact ⟨by omega, by omega, fun h => absurd h he⟩

section
variable {bs : List UInt8} {p : Nat}
theorem base_take (hp : p ≤ bs.length) : baseOf (bs.take (numEnd bs p)) p = baseOf bs p := by
  have h1 := preEnd_le hp
  have h2 := wholeEnd_le hp
  have h3 := fracEnd_le hp
  have h4 := numEnd_le hp
  by_cases hb : baseOf bs p = 10
  · -- no prefix: none in the part either
    have key : ∀ c, (c = 98 ∨ c = 66 ∨ c = 111 ∨ c = 79 ∨ c = 120 ∨ c = 88) → (atB bs p 48 && atB bs (p + 1) c) = false := by
      intro c hc
      cases hh : (atB bs p 48 && atB bs (p + 1) c) with
      | false => rfl
      | true =>
        exfalso
        simp only [Bool.and_eq_true] at hh
        unfold baseOf at hb
        rcases hc with rfl | rfl | rfl | rfl | rfl | rfl <;> simp [hh.1, hh.2] at hb
        all_goals (repeat' split at hb)
        all_goals (first | omega | simp_all)
    have sub : ∀ q c, atB (bs.take (numEnd bs p)) q c = true → atB bs q c = true := by
      intro q c h
      rw [atB_iff, len_take h4.2.1] at h
      rw [atB_iff]
      obtain ⟨a, b⟩ := h
      rw [bt_take a] at b
      exact ⟨by omega, b⟩
    have key2 : ∀ c, (c = 98 ∨ c = 66 ∨ c = 111 ∨ c = 79 ∨ c = 120 ∨ c = 88) → (atB (bs.take (numEnd bs p)) p 48 && atB (bs.take (numEnd bs p)) (p + 1) c) = false := by
      intro c hc
      cases hh : (atB (bs.take (numEnd bs p)) p 48 && atB (bs.take (numEnd bs p)) (p + 1) c) with
      | false => rfl
      | true =>
        exfalso
        simp only [Bool.and_eq_true] at hh
        have := key c hc
        rw [sub _ _ hh.1, sub _ _ hh.2] at this
        cases this
    rw [hb]
    unfold baseOf
    rw [Bool.and_or_distrib_left, Bool.and_or_distrib_left, Bool.and_or_distrib_left]
    rw [key2 98 (by simp), key2 66 (by simp), key2 111 (by simp), key2 79 (by simp), key2 120 (by simp), key2 88 (by simp)]
    simp
  · have hpre : preEnd bs p = p + 2 := by unfold preEnd; rw [if_neg hb]
    have e0 : ∀ c, atB (bs.take (numEnd bs p)) p c = atB bs p c := fun c => atB_take h4.2.1 (fun _ => by omega)
    have e1 : ∀ c, atB (bs.take (numEnd bs p)) (p + 1) c = atB bs (p + 1) c := fun c => atB_take h4.2.1 (fun _ => by omega)
    unfold baseOf
    rw [e0, e1, e1, e1, e1, e1, e1]
theorem pre_take (hp : p ≤ bs.length) : preEnd (bs.take (numEnd bs p)) p = preEnd bs p := by unfold preEnd; rw [base_take hp]
theorem whole_take (hp : p ≤ bs.length) : wholeEnd (bs.take (numEnd bs p)) p = wholeEnd bs p := by
  have h1 := preEnd_le hp
  have h3 := fracEnd_le hp
  have h4 := numEnd_le hp
  show digEnd _ _ _ = _
  rw [base_take hp, pre_take hp]
  exact digEnd_take h1.2 (by show wholeEnd bs p ≤ _; omega) h4.2.1
theorem dot_take (hp : p ≤ bs.length) : isDot (bs.take (numEnd bs p)) p = isDot bs p := by
  have h3 := fracEnd_le hp
  have h4 := numEnd_le hp
  have h2 := wholeEnd_le hp
  unfold isDot
  rw [base_take hp, whole_take hp]
  by_cases hd : (baseOf bs p == 10 || baseOf bs p == 16) = true
  · rw [atB_take h4.2.1 (fun h => by have := h3.2.2 (by unfold isDot; rw [h, hd]; rfl); omega)]
  · have : (baseOf bs p == 10 || baseOf bs p == 16) = false := by simpa using hd
    rw [this]; simp
theorem frac_take (hp : p ≤ bs.length) : fracEnd (bs.take (numEnd bs p)) p = fracEnd bs p := by
  have h3 := fracEnd_le hp
  have h4 := numEnd_le hp
  have h2 := wholeEnd_le hp
  unfold fracEnd
  rw [dot_take hp, base_take hp, whole_take hp]
  by_cases hd : isDot bs p = true
  · rw [if_pos hd, if_pos hd]
    exact digEnd_take (isDot_lt hd) (by have : fracEnd bs p = _ := if_pos hd; unfold fracEnd at h4 this; rw [if_pos hd] at h4; omega) h4.2.1
  · rw [if_neg hd, if_neg hd]
theorem exp_take (hp : p ≤ bs.length) : isExp (bs.take (numEnd bs p)) (fracEnd bs p) = isExp bs (fracEnd bs p) := by
  have h4 := numEnd_le hp
  have key : ∀ c, (c = 101 ∨ c = 69 ∨ c = 112 ∨ c = 80) → atB (bs.take (numEnd bs p)) (fracEnd bs p) c = atB bs (fracEnd bs p) c := by
    intro c hc
    refine atB_take h4.2.1 (fun h => ?_)
    have he : isExp bs (fracEnd bs p) = true := by
      unfold isExp
      rcases hc with rfl | rfl | rfl | rfl <;> simp [h]
    have := expEnd_le (isExp_lt he)
    rw [h4.2.2 he]
    omega
  unfold isExp
  rw [key 101 (by simp), key 69 (by simp), key 112 (by simp), key 80 (by simp)]
theorem sign_take (hp : p ≤ bs.length) (he : isExp bs (fracEnd bs p) = true) : signEnd (bs.take (numEnd bs p)) (fracEnd bs p + 1) = signEnd bs (fracEnd bs p + 1) := by
  have h4 := numEnd_le hp
  have h5 := expEnd_le (isExp_lt he)
  have key : ∀ c, (c = 45 ∨ c = 43) → atB (bs.take (numEnd bs p)) (fracEnd bs p + 1) c = atB bs (fracEnd bs p + 1) c := by
    intro c hc
    refine atB_take h4.2.1 (fun h => ?_)
    have hs : signEnd bs (fracEnd bs p + 1) = fracEnd bs p + 1 + 1 := by
      unfold signEnd
      rw [if_pos]
      rcases hc with rfl | rfl <;> simp [h]
    rw [h4.2.2 he]
    omega
  unfold signEnd
  rw [key 45 (by simp), key 43 (by simp)]
theorem expEnd_take (hp : p ≤ bs.length) (he : isExp bs (fracEnd bs p) = true) : expEnd (bs.take (numEnd bs p)) (fracEnd bs p) = expEnd bs (fracEnd bs p) := by
  have h4 := numEnd_le hp
  have h5 := signEnd_le (bs := bs) (q := fracEnd bs p + 1) (isExp_lt he)
  show digEnd _ _ _ = _
  rw [sign_take hp he]
  exact digEnd_take h5.2 (by have := h4.2.2 he; unfold expEnd at this; omega) h4.2.1
/-- The literal alone ends at its own end. -/
theorem num_take (hp : p ≤ bs.length) : numEnd (bs.take (numEnd bs p)) p = numEnd bs p := by
  have e : numEnd (bs.take (numEnd bs p)) p = if isExp bs (fracEnd bs p) then expEnd (bs.take (numEnd bs p)) (fracEnd bs p) else fracEnd bs p := by
    show (if isExp _ (fracEnd _ p) then expEnd _ (fracEnd _ p) else fracEnd _ p) = _
    rw [frac_take hp, exp_take hp]
  rw [e]
  by_cases he : isExp bs (fracEnd bs p) = true
  · rw [if_pos he, expEnd_take hp he]
    exact ((numEnd_le hp).2.2 he).symm
  · rw [if_neg he]
    unfold numEnd
    rw [if_neg he]
theorem numErr_take (hp : p ≤ bs.length) : numErr (bs.take (numEnd bs p)) p = numErr bs p := by
  unfold numErr
  rw [frac_take hp, exp_take hp]
  by_cases he : isExp bs (fracEnd bs p) = true
  · rw [expEnd_take hp he, sign_take hp he]
  · have : isExp bs (fracEnd bs p) = false := by simpa using he
    rw [this]; rfl
theorem numFloat_take (hp : p ≤ bs.length) : numFloat (bs.take (numEnd bs p)) p = numFloat bs p := by
  unfold numFloat
  rw [frac_take hp, exp_take hp, dot_take hp]
end
theorem numErr_01 (bs : List UInt8) (p : Nat) : 0 ≤ numErr bs p ∧ numErr bs p ≤ 1 := by unfold numErr; split <;> omega
end Go.Proofs.YtpdfompeoceklaaFmt.Core
