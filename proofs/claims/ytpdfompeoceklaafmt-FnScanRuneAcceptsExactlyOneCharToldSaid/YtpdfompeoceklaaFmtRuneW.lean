/-
  Proved: (*Scanner).scanRune over a clean ASCII text by contract: it counts no error just where the literal is one character or one escape and its quote.
  Conditions: the text has no NUL and nothing beyond ASCII; the library's UTF-8 tables hold what the row lists. fmt's text is met, and nothing hangs on it.
-/
import Derived.Test.YtpdfompeoceklaaFmtEscR
import Derived.Test.YtpdfompeoceklaaFmtRaw
namespace Go.Proofs.YtpdfompeoceklaaFmt.Core
open Go.ChangeShapes Go.WideShapes Go.ChangeAt Go.RowKit
set_option linter.unusedVariables false

/-- No NUL, nothing beyond ASCII. -/
def Plain (bs : List UInt8) : Prop := ∀ j, j < bs.length → 0 < bt bs j ∧ bt bs j < 128
theorem Plain.err {bs : List UInt8} (h : Plain bs) (p : Nat) : nxErr bs p = 0 := by
  by_cases hp : p < bs.length
  · exact nxErr_clean (h p hp).1 (h p hp).2
  · exact nxErr_end (by omega)
theorem Plain.rd {bs : List UInt8} (h : Plain bs) {p : Nat} (hp : p < bs.length) : nxCh bs p = (bt bs p : Int) ∧ nxRd bs p = p + 1 := nx_ascii hp (h p hp).2
theorem plain_next {w0 : Base} {w : World} {S : Nat} {bs : List UInt8} {semi : Bool} {mode : Int} {p : Nat} {errs : Int} (h : Live w0 w S bs semi mode p errs) (hc : Plain bs) (hp : p < bs.length) (h0 : 0 ≤ errs) (h1 : errs < 4611686018427387904) :
    Calls Tryf.prog 34 #[.pointer (some ⟨S, 0, none⟩)] w fun e w' => e = .returned (.tuple #[]) ∧ Live w0 w' S bs semi mode (p + 1) errs := by
  refine (live_next h h0 h1).mono ?_
  rintro e w' ⟨rfl, hL, _⟩
  rw [(hc.rd hp).2, hc.err, Int.add_zero] at hL
  exact ⟨rfl, hL⟩
/-- Where the scan of a rune literal stands. -/
def St (bs : List UInt8) (p n : Nat) (v : Bool) (er : Int) : Prop :=
  (n = 0 ∧ p = 1 ∧ v = true ∧ er = 0) ∨ (n = 1 ∧ v = true ∧ er = 0 ∧ oneEnd bs = some p) ∨ (2 ≤ n ∧ v = true ∧ er = 0 ∧ accept bs = false) ∨ (v = false ∧ 1 ≤ er ∧ accept bs = false)
theorem accept_no {bs : List UInt8} {p : Nat} (h : oneEnd bs = some p) (hq : ¬ (p < bs.length ∧ bt bs p = 39)) : accept bs = false := by
  unfold accept
  rw [h]
  show atB bs p 39 = false
  cases hh : atB bs p 39 with
  | false => rfl
  | true => exact absurd (atB_iff.1 hh) hq
theorem accept_none {bs : List UInt8} (h : oneEnd bs = none) : accept bs = false := by unfold accept; rw [h]
theorem St.nn {bs : List UInt8} {p n : Nat} {v : Bool} {er : Int} (h : St bs p n v er) : 0 ≤ er := by rcases h with h | h | h | h <;> omega
theorem st_other {bs : List UInt8} {p n : Nat} {v : Bool} {er : Int} (h : St bs p n v er) (hp : p < bs.length) (h1 : bt bs p ≠ 10) (h2 : bt bs p ≠ 39) (h3 : bt bs p ≠ 92) : St bs (p + 1) (n + 1) v er := by
  rcases h with ⟨rfl, rfl, rfl, rfl⟩ | ⟨rfl, rfl, rfl, h⟩ | ⟨hn, rfl, rfl, h⟩ | ⟨rfl, he, h⟩
  · refine .inr (.inl ⟨rfl, rfl, rfl, ?_⟩)
    unfold oneEnd
    rw [if_pos hp, if_neg h3, if_neg (by omega)]
  · exact .inr (.inr (.inl ⟨by omega, rfl, rfl, accept_no h (fun hh => h2 hh.2)⟩))
  · exact .inr (.inr (.inl ⟨by omega, rfl, rfl, h⟩))
  · exact .inr (.inr (.inr ⟨rfl, he, h⟩))
theorem st_ok {bs : List UInt8} {p n : Nat} {v : Bool} {er : Int} (h : St bs p n v er) (hp : p < bs.length) (h3 : bt bs p = 92) (hk : (escF bs (p + 1) 39).1 = true) : St bs (escF bs (p + 1) 39).2 (n + 1) v er := by
  rcases h with ⟨rfl, rfl, rfl, rfl⟩ | ⟨rfl, rfl, rfl, h⟩ | ⟨hn, rfl, rfl, h⟩ | ⟨rfl, he, h⟩
  · refine .inr (.inl ⟨rfl, rfl, rfl, ?_⟩)
    unfold oneEnd
    rw [if_pos hp, if_pos h3, if_pos hk]
  · exact .inr (.inr (.inl ⟨by omega, rfl, rfl, accept_no h (fun hh => by omega)⟩))
  · exact .inr (.inr (.inl ⟨by omega, rfl, rfl, h⟩))
  · exact .inr (.inr (.inr ⟨rfl, he, h⟩))
theorem st_no {bs : List UInt8} {p n : Nat} {v : Bool} {er : Int} (h : St bs p n v er) (hp : p < bs.length) (h3 : bt bs p = 92) (hk : (escF bs (p + 1) 39).1 = false) (m : Nat) : St bs (escF bs (p + 1) 39).2 m false (er + 1) := by
  refine .inr (.inr (.inr ⟨rfl, by have := h.nn; omega, ?_⟩))
  rcases h with ⟨rfl, rfl, rfl, rfl⟩ | ⟨rfl, rfl, rfl, h⟩ | ⟨hn, rfl, rfl, h⟩ | ⟨rfl, he, h⟩
  · refine accept_none ?_
    unfold oneEnd
    rw [if_pos hp, if_pos h3, hk]
    rfl
  · exact accept_no h (fun hh => by omega)
  · exact h
  · exact h
theorem st_stop {bs : List UInt8} {p n : Nat} {v : Bool} {er : Int} (h : St bs p n v er) (hp : bs.length ≤ p ∨ bt bs p = 10) : accept bs = false := by
  rcases h with ⟨rfl, rfl, rfl, rfl⟩ | ⟨rfl, rfl, rfl, h⟩ | ⟨hn, rfl, rfl, h⟩ | ⟨rfl, he, h⟩
  · refine accept_none ?_
    unfold oneEnd
    by_cases hl : 1 < bs.length
    · rw [if_pos hl, if_neg (by omega), if_pos (by omega)]
    · rw [if_neg hl]
  · exact accept_no h (fun hh => by omega)
  · exact h
  · exact h
theorem st_quote {bs : List UInt8} {p n : Nat} {v : Bool} {er : Int} (h : St bs p n v er) (hp : p < bs.length) (h3 : bt bs p = 39) : (v = true → n = 1 → accept bs = true ∧ oneEnd bs = some p) ∧ ((v = false ∨ n ≠ 1) → accept bs = false) ∧ (v = false → 1 ≤ er) ∧ (v = true → er = 0) := by
  rcases h with ⟨rfl, rfl, rfl, rfl⟩ | ⟨rfl, rfl, rfl, h⟩ | ⟨hn, rfl, rfl, h⟩ | ⟨rfl, he, h⟩
  · refine ⟨fun _ h => absurd h (by omega), fun _ => accept_none ?_, fun h => (by cases h), fun _ => rfl⟩
    unfold oneEnd
    rw [if_pos hp, if_neg (by omega), if_pos (by omega)]
  · refine ⟨fun _ _ => ⟨?_, h⟩, fun hh => by rcases hh with hh | hh; cases hh; exact absurd rfl hh, fun h => (by cases h), fun _ => rfl⟩
    unfold accept
    rw [h]
    exact atB_iff.2 ⟨hp, h3⟩
  · exact ⟨fun _ hh => absurd hh (by omega), fun _ => h, fun h => (by cases h), fun _ => rfl⟩
  · exact ⟨fun hh => (by cases hh), fun _ => h, fun _ => he, fun hh => (by cases hh)⟩
/-- What scanRune leaves. -/
def RuneDone (w0 : Base) (S : Nat) (bs : List UInt8) (semi : Bool) (mode : Int) (e : Ending) (w' : World) : Prop :=
  ∃ (q : Nat) (er : Int), e = .returned (.string (strOf (sub bs 0 q))) ∧ Live w0 w' S bs semi mode q er ∧ 1 ≤ q ∧ q ≤ bs.length ∧ (er = 0 ↔ accept bs = true) ∧ 0 ≤ er ∧ (accept bs = true → ∃ r, oneEnd bs = some r ∧ q = r + 1)
set_option maxHeartbeats 8000000 in
set_option maxRecDepth 20000 in
theorem rune_any {w0 : Base} {w : World} {S : Nat} {bs : List UInt8} {semi : Bool} {mode : Int} (h : Live w0 w S bs semi mode 1 0) (hc : Plain bs) (hl : 1 ≤ bs.length) (hsz : bs.length ≤ 1100000) :
    Calls Tryf.prog 37 #[.pointer (some ⟨S, 0, none⟩)] w (RuneDone w0 S bs semi mode) := by
  have c3 := h.off
  have H := Lib.hid h
  have HC := Lib.hid hc
  clear h hc
  go_enter Tryf.func37, Tryf.ntmps37
  go_wp2_with fail
  clear c3
  go_loopg [4, 5, 6] (bs.length - 1) (fun g v4 v5 _ wr => ∃ (p n : Nat) (v : Bool) (er : Int), g = bs.length - p ∧ v4 = .bool v ∧ v5 = .int .i64 n ∧ n ≤ p ∧ 1 ≤ p ∧ p ≤ bs.length ∧ Hid (Live w0 wr S bs semi mode p er) ∧ 0 ≤ er ∧ er ≤ p ∧ Hid (St bs p n v er))
  case atStart => exact ⟨1, 0, true, 0, rfl, rfl, rfl, by omega, by omega, by omega, H, by omega, by omega, Lib.hid (.inl ⟨rfl, rfl, rfl, rfl⟩)⟩
  case round =>
    obtain ⟨p, n, v, er, rfl, rfl, rfl, hnp, hp1, hpl, HL, f0, f1', HS⟩ := hrel
    have d2 := HL.out.ch
    by_cases hp : p < bs.length
    · have hcl := HC.out p hp
      rw [(HC.out.rd hp).1] at d2
      have tneg : decide (((bt bs p : Nat) : Int) < 0) = false := decide_eq_false (by omega)
      by_cases k10 : bt bs p = 10
      · have AC := Lib.hid (st_stop HS.out (.inr k10))
        rw [k10] at d2
        clear k10 tneg hcl
        cases v with
        | true =>
          have CE := Lib.hid (live_error HL.out f0 (by omega))
          clear HL
          go_wp2_with fail
          refine (CE.out _ _).mono ?_
          rintro e w8 ⟨rfl, hL8⟩
          obtain ⟨q, hq⟩ : ∃ q, q = p := ⟨_, rfl⟩
          rw [← hq] at hL8
          have hq1 : 1 ≤ q := by omega
          have hql : q ≤ bs.length := by omega
          obtain ⟨er2, her2⟩ : ∃ er2 : Int, er2 = er + 1 := ⟨_, rfl⟩
          rw [← her2] at hL8
          have HF : Hid ((er2 = 0 ↔ accept bs = true) ∧ 0 ≤ er2 ∧ (accept bs = true → ∃ r, oneEnd bs = some r ∧ q = r + 1)) := Lib.hid ⟨⟨fun hh => by omega, fun hh => by rw [AC.out] at hh; cases hh⟩, by omega, fun hh => by rw [AC.out] at hh; cases hh⟩
          have HL := Lib.hid hL8
          clear hL8 CE her2 hq d2 f0 f1' HS
          clear er
          obtain ⟨er, rfl⟩ : ∃ er : Int, er = er2 := ⟨_, rfl⟩
          have d3 := HL.out.off
          obtain ⟨b, o, cap, g1, hcap, hcm, hcc⟩ := HL.out.text (by omega)
          have HCC := Lib.hid hcc
          have i0 : (0 : Int) ≤ (q : Int) := by omega
          have i2 : (q : Int) ≤ (cap : Int) := by omega
          have i3 : ¬ cap = 0 := by omega
          clear hcc
          have kc0 := fun m => conv_list (w8.drewN m) b o cap (sub bs 0 q) (fun j hj => by
            rw [sub_len hql] at hj
            rw [sub_bt hj, Nat.zero_add]
            exact HCC.out j (by omega))
          simp only [sub_len hql, Nat.sub_zero] at kc0
          go_wp2_with fail
          go_quiet (fail)
          go_wp2_with fail
          go_ret
          exact ⟨q, er, rfl, HL.out.draws _, hq1, hql, HF.out⟩
        | false =>
          obtain ⟨q, hq⟩ : ∃ q, q = p := ⟨_, rfl⟩
          have hq1 : 1 ≤ q := by omega
          have hql : q ≤ bs.length := by omega
          have h1e : 1 ≤ er := by rcases HS.out with ⟨_, _, hh, _⟩ | ⟨_, hh, _⟩ | ⟨_, hh, _⟩ | ⟨_, hh, _⟩ <;> first | exact hh | cases hh
          have HF : Hid ((er = 0 ↔ accept bs = true) ∧ 0 ≤ er ∧ (accept bs = true → ∃ r, oneEnd bs = some r ∧ q = r + 1)) := Lib.hid ⟨⟨fun hh => by omega, fun hh => by rw [AC.out] at hh; cases hh⟩, by omega, fun hh => by rw [AC.out] at hh; cases hh⟩
          rw [← hq] at HL
          clear hq HS
          have d3 := HL.out.off
          obtain ⟨b, o, cap, g1, hcap, hcm, hcc⟩ := HL.out.text (by omega)
          have HCC := Lib.hid hcc
          have i0 : (0 : Int) ≤ (q : Int) := by omega
          have i2 : (q : Int) ≤ (cap : Int) := by omega
          have i3 : ¬ cap = 0 := by omega
          clear hcc
          have kc0 := fun m => conv_list (wr.drewN m) b o cap (sub bs 0 q) (fun j hj => by
            rw [sub_len hql] at hj
            rw [sub_bt hj, Nat.zero_add]
            exact HCC.out j (by omega))
          simp only [sub_len hql, Nat.sub_zero] at kc0
          go_wp2_with fail
          go_quiet (fail)
          go_wp2_with fail
          go_ret
          exact ⟨q, er, rfl, HL.out.draws _, hq1, hql, HF.out⟩
      · have t10 : (((bt bs p : Nat) : Int) == 10) = false := by rw [beq_eq_false_iff_ne]; omega
        have C := Lib.hid (plain_next HL.out HC.out hp f0 (by omega))
        by_cases k39 : bt bs p = 39
        · have hsq := st_quote HS.out hp k39
          rw [k39] at d2
          clear t10 tneg hcl k10 HL
          go_wp2_with fail
          refine C.out.mono ?_
          rintro e w2 ⟨rfl, hL2⟩
          obtain ⟨q, hq⟩ : ∃ q, q = p + 1 := ⟨_, rfl⟩
          rw [← hq] at hL2
          have hq1 : 1 ≤ q := by omega
          have hql : q ≤ bs.length := by omega
          have HSQ := Lib.hid hsq
          clear hsq C d2
          cases v with
          | false =>
            have hac := HSQ.out.2.1 (.inl rfl)
            have h1e := HSQ.out.2.2.1 rfl
            have HF : Hid ((er = 0 ↔ accept bs = true) ∧ 0 ≤ er ∧ (accept bs = true → ∃ r, oneEnd bs = some r ∧ q = r + 1)) := Lib.hid ⟨⟨fun hh => by omega, fun hh => by rw [hac] at hh; cases hh⟩, by omega, fun hh => by rw [hac] at hh; cases hh⟩
            have HL := Lib.hid hL2
            clear hL2 hac HSQ HS hq
            have d3 := HL.out.off
            obtain ⟨b, o, cap, g1, hcap, hcm, hcc⟩ := HL.out.text (by omega)
            have HCC := Lib.hid hcc
            have i0 : (0 : Int) ≤ (q : Int) := by omega
            have i2 : (q : Int) ≤ (cap : Int) := by omega
            have i3 : ¬ cap = 0 := by omega
            clear hcc
            have kc0 := fun m => conv_list (w2.drewN m) b o cap (sub bs 0 q) (fun j hj => by
              rw [sub_len hql] at hj
              rw [sub_bt hj, Nat.zero_add]
              exact HCC.out j (by omega))
            simp only [sub_len hql, Nat.sub_zero] at kc0
            go_wp2_with fail
            go_quiet (fail)
            go_wp2_with fail
            go_ret
            exact ⟨q, er, rfl, HL.out.draws _, hq1, hql, HF.out⟩
          | true =>
            have her := HSQ.out.2.2.2 rfl
            by_cases kn : n = 1
            · obtain ⟨ha1, ha2⟩ := HSQ.out.1 rfl kn
              have HF : Hid ((er = 0 ↔ accept bs = true) ∧ 0 ≤ er ∧ (accept bs = true → ∃ r, oneEnd bs = some r ∧ q = r + 1)) := Lib.hid ⟨⟨fun _ => ha1, fun _ => her⟩, by omega, fun _ => ⟨p, ha2, hq⟩⟩
              have HL := Lib.hid hL2
              have tn : ((n : Int) != 1) = false := by simp; omega
              clear hL2 HSQ HS hq ha1 ha2 her kn
              have d3 := HL.out.off
              obtain ⟨b, o, cap, g1, hcap, hcm, hcc⟩ := HL.out.text (by omega)
              have HCC := Lib.hid hcc
              have i0 : (0 : Int) ≤ (q : Int) := by omega
              have i2 : (q : Int) ≤ (cap : Int) := by omega
              have i3 : ¬ cap = 0 := by omega
              clear hcc
              have kc0 := fun m => conv_list (w2.drewN m) b o cap (sub bs 0 q) (fun j hj => by
                rw [sub_len hql] at hj
                rw [sub_bt hj, Nat.zero_add]
                exact HCC.out j (by omega))
              simp only [sub_len hql, Nat.sub_zero] at kc0
              go_wp2_with fail
              go_quiet (fail)
              go_wp2_with fail
              go_ret
              exact ⟨q, er, rfl, HL.out.draws _, hq1, hql, HF.out⟩
            · have hac := HSQ.out.2.1 (.inr kn)
              have tn : ((n : Int) != 1) = true := by simp; omega
              have CE := Lib.hid (live_error hL2 f0 (by omega))
              clear hL2 HSQ HS her kn
              go_wp2_with fail
              refine (CE.out _ _).mono ?_
              rintro e w8 ⟨rfl, hL8⟩
              obtain ⟨er2, her2⟩ : ∃ er2 : Int, er2 = er + 1 := ⟨_, rfl⟩
              rw [← her2] at hL8
              have HF : Hid ((er2 = 0 ↔ accept bs = true) ∧ 0 ≤ er2 ∧ (accept bs = true → ∃ r, oneEnd bs = some r ∧ q = r + 1)) := Lib.hid ⟨⟨fun hh => by omega, fun hh => by rw [hac] at hh; cases hh⟩, by omega, fun hh => by rw [hac] at hh; cases hh⟩
              have HL := Lib.hid hL8
              clear hL8 CE her2 hq hac f0 f1'
              clear er
              obtain ⟨er, rfl⟩ : ∃ er : Int, er = er2 := ⟨_, rfl⟩
              have d3 := HL.out.off
              obtain ⟨b, o, cap, g1, hcap, hcm, hcc⟩ := HL.out.text (by omega)
              have HCC := Lib.hid hcc
              have i0 : (0 : Int) ≤ (q : Int) := by omega
              have i2 : (q : Int) ≤ (cap : Int) := by omega
              have i3 : ¬ cap = 0 := by omega
              clear hcc
              have kc0 := fun m => conv_list (w8.drewN m) b o cap (sub bs 0 q) (fun j hj => by
                rw [sub_len hql] at hj
                rw [sub_bt hj, Nat.zero_add]
                exact HCC.out j (by omega))
              simp only [sub_len hql, Nat.sub_zero] at kc0
              go_wp2_with fail
              go_quiet (fail)
              go_wp2_with fail
              go_ret
              exact ⟨q, er, rfl, HL.out.draws _, hq1, hql, HF.out⟩
        · have t39 : (((bt bs p : Nat) : Int) == 39) = false := by rw [beq_eq_false_iff_ne]; omega
          by_cases k92 : bt bs p = 92
          · have hle := escF_le (bs := bs) (p := p + 1) (quote := 39) (by omega)
            have SY := Lib.hid (st_ok HS.out hp k92)
            have SN := Lib.hid (fun hk => st_no HS.out hp k92 hk (n + 1))
            rw [k92] at d2
            clear t10 tneg hcl k10 k39 k92 t39 HL HS
            go_wp2_with fail
            refine C.out.mono ?_
            rintro e w2 ⟨rfl, hL2⟩
            have C2 := Lib.hid (escape_39 (E := er) (by rw [HC.out.err, Int.add_zero]; exact hL2) f0 (by omega))
            clear hL2 C
            go_wp2_with fail
            refine C2.out.mono ?_
            rintro e w3 ⟨rfl, hL3⟩
            rw [HC.out.err, Int.add_zero] at hL3
            cases hk : (escF bs (p + 1) 39).1 with
            | true =>
              rw [hk] at hL3
              have S2 := Lib.hid (SY.out hk)
              have HL3 : Hid (Live w0 w3 S bs semi mode (escF bs (p + 1) 39).2 er) := Lib.hid (by have := hL3; unfold escErr at this; simpa using this)
              clear hL3 C2 SY SN hk
              go_wp2_with fail
              go_roundg (bs.length - (escF bs (p + 1) 39).2)
              case measure => omega
              case rel => exact ⟨(escF bs (p + 1) 39).2, n + 1, v, er, rfl, rfl, by go_num, by omega, by omega, by omega, HL3, by omega, by omega, S2⟩
            | false =>
              rw [hk] at hL3
              have S2 := Lib.hid (SN.out hk)
              have HL3 : Hid (Live w0 w3 S bs semi mode (escF bs (p + 1) 39).2 (er + 1)) := Lib.hid (by have := hL3; unfold escErr at this; simpa using this)
              clear hL3 C2 SY SN hk
              go_wp2_with fail
              go_roundg (bs.length - (escF bs (p + 1) 39).2)
              case measure => omega
              case rel => exact ⟨(escF bs (p + 1) 39).2, n + 1, false, er + 1, rfl, rfl, by go_num, by omega, by omega, by omega, HL3, by omega, by omega, S2⟩
          · have t92 : (((bt bs p : Nat) : Int) == 92) = false := by rw [beq_eq_false_iff_ne]; omega
            have S2 := Lib.hid (st_other HS.out hp k10 k39 k92)
            clear k10 k39 k92 HL HS
            generalize bt bs p = c at *
            go_wp2_with fail
            refine C.out.mono ?_
            rintro e w2 ⟨rfl, hL2⟩
            have HL2 := Lib.hid hL2
            clear hL2 C
            go_wp2_with fail
            go_roundg (bs.length - (p + 1))
            case measure => omega
            case rel => exact ⟨p + 1, n + 1, v, er, rfl, rfl, by go_num, by omega, by omega, by omega, HL2, by omega, by omega, S2⟩
    · have AC := Lib.hid (st_stop HS.out (.inl (by omega)))
      rw [(nx_end (by omega)).1] at d2
      cases v with
      | true =>
        have CE := Lib.hid (live_error HL.out f0 (by omega))
        clear HL
        go_wp2_with fail
        refine (CE.out _ _).mono ?_
        rintro e w8 ⟨rfl, hL8⟩
        obtain ⟨q, hq⟩ : ∃ q, q = p := ⟨_, rfl⟩
        rw [← hq] at hL8
        have hq1 : 1 ≤ q := by omega
        have hql : q ≤ bs.length := by omega
        obtain ⟨er2, her2⟩ : ∃ er2 : Int, er2 = er + 1 := ⟨_, rfl⟩
        rw [← her2] at hL8
        have HF : Hid ((er2 = 0 ↔ accept bs = true) ∧ 0 ≤ er2 ∧ (accept bs = true → ∃ r, oneEnd bs = some r ∧ q = r + 1)) := Lib.hid ⟨⟨fun hh => by omega, fun hh => by rw [AC.out] at hh; cases hh⟩, by omega, fun hh => by rw [AC.out] at hh; cases hh⟩
        have HL := Lib.hid hL8
        clear hL8 CE her2 hq d2 f0 f1' HS
        clear er
        obtain ⟨er, rfl⟩ : ∃ er : Int, er = er2 := ⟨_, rfl⟩
        have d3 := HL.out.off
        obtain ⟨b, o, cap, g1, hcap, hcm, hcc⟩ := HL.out.text (by omega)
        have HCC := Lib.hid hcc
        have i0 : (0 : Int) ≤ (q : Int) := by omega
        have i2 : (q : Int) ≤ (cap : Int) := by omega
        have i3 : ¬ cap = 0 := by omega
        clear hcc
        have kc0 := fun m => conv_list (w8.drewN m) b o cap (sub bs 0 q) (fun j hj => by
          rw [sub_len hql] at hj
          rw [sub_bt hj, Nat.zero_add]
          exact HCC.out j (by omega))
        simp only [sub_len hql, Nat.sub_zero] at kc0
        go_wp2_with fail
        go_quiet (fail)
        go_wp2_with fail
        go_ret
        exact ⟨q, er, rfl, HL.out.draws _, hq1, hql, HF.out⟩
      | false =>
        obtain ⟨q, hq⟩ : ∃ q, q = p := ⟨_, rfl⟩
        have hq1 : 1 ≤ q := by omega
        have hql : q ≤ bs.length := by omega
        have h1e : 1 ≤ er := by rcases HS.out with ⟨_, _, hh, _⟩ | ⟨_, hh, _⟩ | ⟨_, hh, _⟩ | ⟨_, hh, _⟩ <;> first | exact hh | cases hh
        have HF : Hid ((er = 0 ↔ accept bs = true) ∧ 0 ≤ er ∧ (accept bs = true → ∃ r, oneEnd bs = some r ∧ q = r + 1)) := Lib.hid ⟨⟨fun hh => by omega, fun hh => by rw [AC.out] at hh; cases hh⟩, by omega, fun hh => by rw [AC.out] at hh; cases hh⟩
        rw [← hq] at HL
        clear hq HS
        have d3 := HL.out.off
        obtain ⟨b, o, cap, g1, hcap, hcm, hcc⟩ := HL.out.text (by omega)
        have HCC := Lib.hid hcc
        have i0 : (0 : Int) ≤ (q : Int) := by omega
        have i2 : (q : Int) ≤ (cap : Int) := by omega
        have i3 : ¬ cap = 0 := by omega
        clear hcc
        have kc0 := fun m => conv_list (wr.drewN m) b o cap (sub bs 0 q) (fun j hj => by
          rw [sub_len hql] at hj
          rw [sub_bt hj, Nat.zero_add]
          exact HCC.out j (by omega))
        simp only [sub_len hql, Nat.sub_zero] at kc0
        go_wp2_with fail
        go_quiet (fail)
        go_wp2_with fail
        go_ret
        exact ⟨q, er, rfl, HL.out.draws _, hq1, hql, HF.out⟩
end Go.Proofs.YtpdfompeoceklaaFmt.Core
