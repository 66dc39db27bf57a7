/-
  Proved: (*Scanner).scanRawString by contract: the literal without carriage returns, where it ends, that an open one is counted.
  Conditions: the library's UTF-8 tables hold what the row lists.
-/
import Derived.Test.YtpdfompeoceklaaFmtStrip
import Derived.Test.YtpdfompeoceklaaFmtStr
import Derived.Deep.LoopGhost
import Derived.Deep.QuietTactic
import Derived.BigQuiet
namespace Go.Proofs.YtpdfompeoceklaaFmt.Core
open Go.ChangeShapes Go.WideShapes Go.ChangeAt Go.RowKit
set_option linter.unusedVariables false

def noCR (l : List UInt8) : List UInt8 := l.filter fun b => b.toNat != 13
theorem noCR_same {l : List UInt8} (h : ∀ j, j < l.length → bt l j ≠ 13) : noCR l = l := by
  unfold noCR
  rw [List.filter_eq_self]
  intro b hb
  obtain ⟨j, hj, rfl⟩ := List.getElem_of_mem hb
  have := h j hj
  unfold bt at this
  rw [List.getD_eq_getElem?_getD, List.getElem?_eq_getElem hj, Option.getD_some] at this
  simpa using this
theorem strip_noCR (l : List UInt8) : stripL l false l.length = noCR l := by
  rw [stripL_plain l l.length (Nat.le_refl _), List.take_length]
  rfl
/-- The end of a raw string: behind the next backtick, or the text's end. -/
def rawEnd (bs : List UInt8) (i : Nat) : Nat × Bool :=
  if h : i < bs.length then (if bt bs i = 96 then (i + 1, true) else rawEnd bs (i + 1)) else (bs.length, false)
  termination_by bs.length - i
  decreasing_by omega
theorem rawEnd_yes {bs : List UInt8} {i : Nat} (h : i < bs.length) (h1 : bt bs i = 96) : rawEnd bs i = (i + 1, true) := by rw [rawEnd, dif_pos h, if_pos h1]
theorem rawEnd_no {bs : List UInt8} {i : Nat} (h : i < bs.length) (h1 : bt bs i ≠ 96) : rawEnd bs i = rawEnd bs (i + 1) := by
  conv => lhs; rw [rawEnd]
  rw [dif_pos h, if_neg h1]
theorem rawEnd_end {bs : List UInt8} {i : Nat} (h : bs.length ≤ i) : rawEnd bs i = (bs.length, false) := by rw [rawEnd, dif_neg (by omega)]
theorem rawEnd_run {bs : List UInt8} : ∀ {p q : Nat}, p ≤ q → (∀ j, p ≤ j → j < q → j < bs.length ∧ bt bs j ≠ 96) → rawEnd bs p = rawEnd bs q
  | p, q, h1, h2 => by
    by_cases h : p < q
    · obtain ⟨a, b⟩ := h2 p (Nat.le_refl _) h
      rw [rawEnd_no a b]
      exact rawEnd_run (p := p + 1) (by omega) (fun j c d => h2 j (by omega) d)
    · have : p = q := by omega
      rw [this]
  termination_by p q => q - p
  decreasing_by omega
theorem rawEnd_char {bs : List UInt8} {p : Nat} (h : p < bs.length) (hq : bt bs p ≠ 96) : rawEnd bs p = rawEnd bs (nxRd bs p) := by
  have hg := nxRd_gt h
  refine rawEnd_run (by omega) (fun j a b => ⟨by omega, ?_⟩)
  by_cases ha : bt bs p < 128
  · rw [(nx_ascii h ha).2] at b
    have : j = p := by omega
    subst this; exact hq
  · have := nx_wide h (by omega) a b
    omega
theorem rawEnd_le {bs : List UInt8} : ∀ {i : Nat}, i ≤ bs.length → i ≤ (rawEnd bs i).1 ∧ (rawEnd bs i).1 ≤ bs.length
  | i, h => by
    by_cases hi : i < bs.length
    · by_cases h1 : bt bs i = 96
      · rw [rawEnd_yes hi h1]; exact ⟨by simp, hi⟩
      · rw [rawEnd_no hi h1]
        have := rawEnd_le (bs := bs) (i := i + 1) (by omega)
        omega
    · rw [rawEnd_end (by omega)]; exact ⟨h, Nat.le_refl _⟩
  termination_by i => bs.length - i
  decreasing_by omega
/-- What is read as one character holds no carriage return unless it is one. -/
theorem no13_char {bs : List UInt8} {p : Nat} (h : p < bs.length) (hq : bt bs p ≠ 13) : ∀ j, p ≤ j → j < nxRd bs p → bt bs j ≠ 13 := by
  intro j a b
  by_cases ha : bt bs p < 128
  · rw [(nx_ascii h ha).2] at b
    have : j = p := by omega
    subst this; exact hq
  · have := nx_wide h (by omega) a b
    omega
theorem ch_ne {bs : List UInt8} {p c : Nat} (hc : c < 128) (h : ¬ (p < bs.length ∧ bt bs p = c)) : (nxCh bs p == (c : Int)) = false := by
  rw [beq_eq_false_iff_ne]
  exact fun hh => h ((nxCh_eq hc).1 hh)
theorem ch_pos {bs : List UInt8} {p : Nat} (h : p < bs.length) : 0 ≤ nxCh bs p := by
  unfold nxCh
  rw [if_pos h]
  omega
/-- What scanRawString leaves. -/
def RawDone (w0 : Base) (S : Nat) (bs : List UInt8) (semi : Bool) (mode : Int) (e : Ending) (w' : World) : Prop :=
  ∃ er, e = .returned (.string (strOf (noCR (sub bs 0 (rawEnd bs 1).1)))) ∧ Live w0 w' S bs semi mode (rawEnd bs 1).1 er ∧ 0 ≤ er ∧ er ≤ 4000000 ∧ ((rawEnd bs 1).2 = false → 1 ≤ er)
set_option maxHeartbeats 8000000 in
set_option maxRecDepth 20000 in
theorem raw_any {w0 : Base} {w : World} {S : Nat} {bs : List UInt8} {semi : Bool} {mode : Int} {e0 : Int} (h : Live w0 w S bs semi mode 1 e0) (h0 : 0 ≤ e0) (h1 : e0 ≤ 2) (hb : bt bs 0 ≠ 13) (hl : 0 < bs.length) :
    Calls Tryf.prog 36 #[.pointer (some ⟨S, 0, none⟩)] w (RawDone w0 S bs semi mode) := by
  have c3 := h.off
  have hlen := h.len
  have H := Lib.hid h
  clear h
  go_enter Tryf.func36, Tryf.ntmps36
  go_wp2_with fail
  clear c3
  go_loopg [4, 5] (bs.length - 1) (fun g v4 _ wr => ∃ (p : Nat) (er : Int) (cr : Bool), g = bs.length - p ∧ v4 = .bool cr ∧ 1 ≤ p ∧ p ≤ bs.length ∧ Hid (Live w0 wr S bs semi mode p er) ∧ 0 ≤ er ∧ er ≤ p + 2 ∧ Hid (rawEnd bs 1 = rawEnd bs p) ∧ Hid (cr = false → ∀ j, 1 ≤ j → j < p → bt bs j ≠ 13))
  case atStart => exact ⟨1, e0, false, rfl, rfl, by omega, by omega, H, h0, by omega, Lib.hid rfl, Lib.hid (fun _ j a b => absurd b (by omega))⟩
  case round =>
    obtain ⟨p, er, cr, rfl, rfl, hp1, hpl, HL, f0, f1', HR, H13c⟩ := hrel
    have d2 := HL.out.ch
    by_cases hp : p < bs.length
    · have hch := ch_pos hp
      have tneg : decide (nxCh bs p < 0) = false := decide_eq_false (by omega)
      have hg := nxRd_gt hp
      have hne := nxErr_le (bs := bs) (p := nxRd bs p)
      have C := Lib.hid (live_next HL.out f0 (by omega))
      by_cases k96 : bt bs p = 96
      · have hx := nx_ascii hp (by omega)
        have HQ := Lib.hid (HR.out.trans (rawEnd_yes hp k96))
        rw [hx.1, k96] at d2
        rw [hx.2] at C hg hne
        rw [hx.1, k96] at tneg
        clear hx hch HL
        have H13n := Lib.hid (show cr = false → ∀ j, 1 ≤ j → j < p + 1 → bt bs j ≠ 13 from fun hc j a b => by
          by_cases e : j = p
          · subst e; omega
          · exact H13c.out hc j a (by omega))
        clear H13c k96
        go_wp2_with fail
        refine C.out.mono ?_
        rintro e w2 ⟨rfl, hL2, _⟩
        obtain ⟨q, hq⟩ : ∃ q, q = p + 1 := ⟨_, rfl⟩
        rw [← hq] at hL2 HQ H13n hne
        obtain ⟨er2, her2⟩ : ∃ er2 : Int, er2 = er + nxErr bs q := ⟨_, rfl⟩
        rw [← her2] at hL2
        have g0 : 0 ≤ er2 := by omega
        have g1' : er2 ≤ 4000000 := by omega
        have hq1 : 1 ≤ q := by omega
        have hql : q ≤ bs.length := by omega
        clear f0 f1' her2 hg hne hq C HR
        have HL := Lib.hid hL2
        clear hL2 d2
        obtain ⟨er, rfl⟩ : ∃ er : Int, er = er2 := ⟨_, rfl⟩
        have H13c := H13n
        have f0 := g0
        have f1 := g1'
        have FE : Hid (true = false → 1 ≤ er) := Lib.hid (fun hh => by cases hh)
        clear g0 g1' H13n
        cases cr with
        | false =>
          have H13 := Lib.hid (H13c.out rfl)
          clear H13c
          have d3 := HL.out.off
          have hlen9 := HL.out.len
          obtain ⟨b, o, cap, g1, hcap, hcm, hcc⟩ := HL.out.text (by omega)
          have HCC := Lib.hid hcc
          have i0 : (0 : Int) ≤ (q : Int) := by omega
          have i2 : (q : Int) ≤ (cap : Int) := by omega
          have i3 : ¬ cap = 0 := by omega
          clear hcc
          have kc0 := fun m => conv_list (w2.drewN m) b o cap (sub bs 0 q) (fun j hj => by
            rw [sub_len hql] at hj
            rw [sub_bt hj, Nat.zero_add]
            exact HCC.out j (by omega))
          simp only [sub_len hql, Nat.sub_zero] at kc0
          have hno : noCR (sub bs 0 q) = sub bs 0 q := noCR_same (fun j hj => by
            rw [sub_len hql] at hj
            rw [sub_bt hj, Nat.zero_add]
            by_cases e : j = 0
            · subst e; omega
            · exact H13.out j (by omega) (by omega))
          have HNO := Lib.hid hno
          clear hno
          go_wp2_with fail
          go_quiet (fail)
          go_wp2_with fail
          go_ret
          refine ⟨er, ?_, ?_, f0, f1, ?_⟩
          · rw [HQ.out]; show _ = Ending.returned (.string (strOf (noCR (sub bs 0 q)))); rw [HNO.out]; rfl
          · rw [HQ.out]; exact HL.out.draws _
          · rw [HQ.out]; first | exact FE.out | exact fun _ => FE.out trivial
        | true =>
          clear H13c
          have d3 := HL.out.off
          have hlen9 := HL.out.len
          obtain ⟨b, o, cap, g1, hcap, hcm, hcc⟩ := HL.out.text (by omega)
          have HCC := Lib.hid hcc
          have i0 : (0 : Int) ≤ (q : Int) := by omega
          have i2 : (q : Int) ≤ (cap : Int) := by omega
          have i3 : ¬ cap = 0 := by omega
          clear hcc
          have KS := fun m => strip_any b o cap (sub bs 0 q) false (w2.drewN m) (fun j hj => by
            rw [sub_len hql] at hj
            rw [sub_bt hj, Nat.zero_add]
            exact HCC.out j (by omega)) (by rw [sub_len hql]; omega)
          simp only [sub_len hql, Nat.sub_zero] at KS
          have HKS := Lib.hid KS
          clear KS
          go_wp2_with fail
          go_quiet (fail)
          go_wp2_with fail
          refine (HKS.out _).mono ?_
          rintro e w9 ⟨rfl, ho9, hc9⟩
          have kc9 := conv_list w9 _ 0 (sub bs 0 q).length _ hc9
          have OB := Lib.hid (ho9.below (Nat.le_refl _) (by simp))
          have HSN := Lib.hid (strip_noCR (sub bs 0 q))
          simp only [World.heap_drewN] at kc9
          clear ho9 hc9 HKS
          go_wp2_with fail
          go_ret
          refine ⟨er, ?_, ?_, f0, f1, ?_⟩
          · rw [HQ.out]; show _ = Ending.returned (.string (strOf (noCR (sub bs 0 q)))); rw [← HSN.out]; rfl
          · rw [HQ.out]; exact (HL.out.draws _).later OB.out
          · rw [HQ.out]; first | exact FE.out | exact fun _ => FE.out trivial
      · have t96 := ch_ne (bs := bs) (p := p) (c := 96) (by omega) (fun hh => k96 hh.2)
        have t96' : (nxCh bs p == 96) = false := t96
        have HR2 := Lib.hid (HR.out.trans (rawEnd_char hp k96))
        clear t96 k96
        by_cases k13 : bt bs p = 13
        · have hx := nx_ascii hp (by omega)
          rw [hx.1, k13] at d2 t96' tneg
          clear hx k13 hch
          go_wp2_with fail
          refine C.out.mono ?_
          rintro e w2 ⟨rfl, hL2, _⟩
          have HL2 := Lib.hid hL2
          clear hL2 C
          go_wp2_with fail
          go_roundg (bs.length - nxRd bs p)
          case measure => omega
          case rel => exact ⟨nxRd bs p, _, true, rfl, rfl, by omega, by omega, HL2, by omega, by omega, HR2, Lib.hid (fun hh => by cases hh)⟩
        · have t13 := ch_ne (bs := bs) (p := p) (c := 13) (by omega) (fun hh => k13 hh.2)
          have t13' : (nxCh bs p == 13) = false := t13
          have H13n := Lib.hid (show cr = false → ∀ j, 1 ≤ j → j < nxRd bs p → bt bs j ≠ 13 from fun hc j a b => by
            by_cases e : j < p
            · exact H13c.out hc j a e
            · exact no13_char hp k13 j (by omega) b)
          clear t13 k13
          generalize nxCh bs p = ch at *
          go_wp2_with fail
          refine C.out.mono ?_
          rintro e w2 ⟨rfl, hL2, _⟩
          have HL2 := Lib.hid hL2
          clear hL2 C
          go_wp2_with fail
          go_roundg (bs.length - nxRd bs p)
          case measure => omega
          case rel => exact ⟨nxRd bs p, _, cr, rfl, rfl, by omega, by omega, HL2, by omega, by omega, HR2, H13n⟩
    · have hpe : p = bs.length := by omega
      have HQ := Lib.hid (HR.out.trans (rawEnd_end (by omega)))
      rw [(nx_end (by omega)).1] at d2
      have CE := Lib.hid (live_error HL.out f0 (by omega))
      clear HL HR
      go_wp2_with fail
      refine (CE.out _ _).mono ?_
      rintro e w8 ⟨rfl, hL8⟩
      obtain ⟨q, hq⟩ : ∃ q, q = bs.length := ⟨_, rfl⟩
      rw [hpe, ← hq] at hL8
      rw [hpe] at H13c f1'
      rw [← hq] at HQ H13c
      obtain ⟨er2, her2⟩ : ∃ er2 : Int, er2 = er + 1 := ⟨_, rfl⟩
      rw [← her2] at hL8
      have f0' : 0 ≤ er2 := by omega
      have f1 : er2 ≤ 4000000 := by omega
      have g2 : 1 ≤ er2 := by omega
      have hq1 : 1 ≤ q := by omega
      have hql : q ≤ bs.length := by omega
      clear f0 f1' her2 hpe hq CE d2 hp hp1 hpl
      have HL := Lib.hid hL8
      clear hL8 er
      obtain ⟨er, rfl⟩ : ∃ er : Int, er = er2 := ⟨_, rfl⟩
      have f0 := f0'
      have FE : Hid (false = false → 1 ≤ er) := Lib.hid (fun _ => g2)
      cases cr with
      | false =>
        have H13 := Lib.hid (H13c.out rfl)
        clear H13c
        have d3 := HL.out.off
        have hlen9 := HL.out.len
        obtain ⟨b, o, cap, g1, hcap, hcm, hcc⟩ := HL.out.text (by omega)
        have HCC := Lib.hid hcc
        have i0 : (0 : Int) ≤ (q : Int) := by omega
        have i2 : (q : Int) ≤ (cap : Int) := by omega
        have i3 : ¬ cap = 0 := by omega
        clear hcc
        have kc0 := fun m => conv_list (w8.drewN m) b o cap (sub bs 0 q) (fun j hj => by
          rw [sub_len hql] at hj
          rw [sub_bt hj, Nat.zero_add]
          exact HCC.out j (by omega))
        simp only [sub_len hql, Nat.sub_zero] at kc0
        have hno : noCR (sub bs 0 q) = sub bs 0 q := noCR_same (fun j hj => by
          rw [sub_len hql] at hj
          rw [sub_bt hj, Nat.zero_add]
          by_cases e : j = 0
          · subst e; omega
          · exact H13.out j (by omega) (by omega))
        have HNO := Lib.hid hno
        clear hno
        go_wp2_with fail
        go_quiet (fail)
        go_wp2_with fail
        go_ret
        refine ⟨er, ?_, ?_, f0, f1, ?_⟩
        · rw [HQ.out]; show _ = Ending.returned (.string (strOf (noCR (sub bs 0 q)))); rw [HNO.out]; rfl
        · rw [HQ.out]; exact HL.out.draws _
        · rw [HQ.out]; first | exact FE.out | exact fun _ => FE.out trivial
      | true =>
        clear H13c
        have d3 := HL.out.off
        have hlen9 := HL.out.len
        obtain ⟨b, o, cap, g1, hcap, hcm, hcc⟩ := HL.out.text (by omega)
        have HCC := Lib.hid hcc
        have i0 : (0 : Int) ≤ (q : Int) := by omega
        have i2 : (q : Int) ≤ (cap : Int) := by omega
        have i3 : ¬ cap = 0 := by omega
        clear hcc
        have KS := fun m => strip_any b o cap (sub bs 0 q) false (w8.drewN m) (fun j hj => by
          rw [sub_len hql] at hj
          rw [sub_bt hj, Nat.zero_add]
          exact HCC.out j (by omega)) (by rw [sub_len hql]; omega)
        simp only [sub_len hql, Nat.sub_zero] at KS
        have HKS := Lib.hid KS
        clear KS
        go_wp2_with fail
        go_quiet (fail)
        go_wp2_with fail
        refine (HKS.out _).mono ?_
        rintro e w9 ⟨rfl, ho9, hc9⟩
        have kc9 := conv_list w9 _ 0 (sub bs 0 q).length _ hc9
        have OB := Lib.hid (ho9.below (Nat.le_refl _) (by simp))
        have HSN := Lib.hid (strip_noCR (sub bs 0 q))
        simp only [World.heap_drewN] at kc9
        clear ho9 hc9 HKS
        go_wp2_with fail
        go_ret
        refine ⟨er, ?_, ?_, f0, f1, ?_⟩
        · rw [HQ.out]; show _ = Ending.returned (.string (strOf (noCR (sub bs 0 q)))); rw [← HSN.out]; rfl
        · rw [HQ.out]; exact (HL.out.draws _).later OB.out
        · rw [HQ.out]; first | exact FE.out | exact fun _ => FE.out trivial
end Go.Proofs.YtpdfompeoceklaaFmt.Core
