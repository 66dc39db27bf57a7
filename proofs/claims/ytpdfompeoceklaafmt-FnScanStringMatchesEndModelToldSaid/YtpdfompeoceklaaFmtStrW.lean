/-
  Proved: (*Scanner).scanString by contract: the literal, where it ends, that an open one is counted.
  Conditions: the library's UTF-8 tables hold what the row lists. fmt's text is met, and nothing hangs on it.
-/
import Derived.Test.YtpdfompeoceklaaFmtEscW
import Derived.Test.YtpdfompeoceklaaFmtRaw
namespace Go.Proofs.YtpdfompeoceklaaFmt.Core
open Go.ChangeShapes Go.WideShapes Go.ChangeAt Go.RowKit
set_option linter.unusedVariables false

/-- What scanString leaves. -/
def StrDone (w0 : Base) (S : Nat) (bs : List UInt8) (semi : Bool) (mode : Int) (e : Ending) (w' : World) : Prop :=
  ∃ er, e = .returned (.string (strOf (sub bs 0 (strEnd bs 1).1))) ∧ Live w0 w' S bs semi mode (strEnd bs 1).1 er ∧ 0 ≤ er ∧ er ≤ 4000000 ∧ ((strEnd bs 1).2 = false → 1 ≤ er)
theorem strEnd_esc {bs : List UInt8} {p : Nat} (h : p < bs.length) (hc : bt bs p = 92) : strEnd bs p = strEnd bs (escF bs (p + 1) 34).2 := by
  by_cases hp : p + 1 < bs.length ∧ (bt bs (p + 1) = 92 ∨ bt bs (p + 1) = 34)
  · rw [strEnd_pair hp.1 hc hp.2, escF_pair hp.1 hp.2]
  · rw [strEnd_one h (by omega) (by omega) (fun hh => hp hh.2)]
    exact strEnd_run (escF_le (by omega)).1 (escF_quiet hp)
set_option maxHeartbeats 8000000 in
set_option maxRecDepth 20000 in
theorem string_any {w0 : Base} {w : World} {S : Nat} {bs : List UInt8} {semi : Bool} {mode : Int} {e0 : Int} (h : Live w0 w S bs semi mode 1 e0) (h0 : 0 ≤ e0) (h1 : e0 ≤ 2) (hl : 0 < bs.length) (hsz : bs.length ≤ 1000000) :
    Calls Tryf.prog 35 #[.pointer (some ⟨S, 0, none⟩)] w (StrDone w0 S bs semi mode) := by
  have c3 := h.off
  have H := Lib.hid h
  clear h
  go_enter Tryf.func35, Tryf.ntmps35
  go_wp2_with fail
  clear c3
  go_loopg [4] (bs.length - 1) (fun g _ wr => ∃ (p : Nat) (er : Int), g = bs.length - p ∧ 1 ≤ p ∧ p ≤ bs.length ∧ Hid (Live w0 wr S bs semi mode p er) ∧ 0 ≤ er ∧ er ≤ 2 * p + 2 ∧ Hid (strEnd bs 1 = strEnd bs p))
  case atStart => exact ⟨1, e0, rfl, by omega, by omega, H, h0, by omega, Lib.hid rfl⟩
  case round =>
    obtain ⟨p, er, rfl, hp1, hpl, HL, f0, f1', HR⟩ := hrel
    have d2 := HL.out.ch
    by_cases hp : p < bs.length
    · have hch := ch_pos hp
      have tneg : decide (nxCh bs p < 0) = false := decide_eq_false (by omega)
      have hg := nxRd_gt hp
      have hne := nxErr_le (bs := bs) (p := nxRd bs p)
      by_cases k10 : bt bs p = 10
      · have hx := nx_ascii hp (by omega)
        have HQ := Lib.hid (HR.out.trans (strEnd_nl hp k10))
        rw [hx.1, k10] at d2
        have CE := Lib.hid (live_error HL.out f0 (by omega))
        clear hx k10 HL HR tneg hch hne hg
        go_wp2_with fail
        refine (CE.out _ _).mono ?_
        rintro e w8 ⟨rfl, hL8⟩
        obtain ⟨er2, her2⟩ : ∃ er2 : Int, er2 = er + 1 := ⟨_, rfl⟩
        rw [← her2] at hL8
        have f0' : 0 ≤ er2 := by omega
        have f1 : er2 ≤ 4000000 := by omega
        have g2 : 1 ≤ er2 := by omega
        obtain ⟨q, hq⟩ : ∃ q, q = p := ⟨_, rfl⟩
        rw [← hq] at hL8 HQ
        have hq1 : 1 ≤ q := by omega
        have hql : q ≤ bs.length := by omega
        have HL := Lib.hid hL8
        clear hL8 CE f0 f1' her2 hq d2
        clear er
        obtain ⟨er, rfl⟩ : ∃ er : Int, er = er2 := ⟨_, rfl⟩
        have f0 := f0'
        have FE : Hid (false = false → 1 ≤ er) := Lib.hid (fun _ => g2)
        have d3 := HL.out.off
        obtain ⟨b, o, cap, g1, hcap, hcm, hcc⟩ := HL.out.text (by omega)
        have HCC := Lib.hid hcc
        have i0 : (0 : Int) ≤ (q : Int) := by omega
        have i2 : (q : Int) ≤ (cap : Int) := by omega
        have i3 : ¬ cap = 0 := by omega
        clear hcc
        have kc0 := fun m => conv_list (w8.drewN m) b o cap (sub bs 0 q) (fun j hj => by
          rw [sub_len hql] at hj
          rw [sub_bt hj, Nat.zero_add]
          exact HCC.out j (by omega))
        simp only [sub_len hql, Nat.sub_zero] at kc0
        go_wp2_with fail
        go_quiet (fail)
        go_wp2_with fail
        go_ret
        refine ⟨er, ?_, ?_, f0, f1, ?_⟩
        · rw [HQ.out]; rfl
        · rw [HQ.out]; exact HL.out.draws _
        · rw [HQ.out]; first | exact FE.out | exact fun _ => FE.out trivial
      · have t10 : (nxCh bs p == 10) = false := ch_ne (c := 10) (by omega) (fun hh => k10 hh.2)
        have C := Lib.hid (live_next HL.out f0 (by omega))
        by_cases k34 : bt bs p = 34
        · have hx := nx_ascii hp (by omega)
          have HQ := Lib.hid (HR.out.trans (strEnd_quote hp k34))
          rw [hx.1, k34] at d2 t10 tneg
          rw [hx.2] at C hg hne
          clear hx hch HL k34 k10
          go_wp2_with fail
          refine C.out.mono ?_
          rintro e w2 ⟨rfl, hL2, _⟩
          obtain ⟨q, hq⟩ : ∃ q, q = p + 1 := ⟨_, rfl⟩
          rw [← hq] at hL2 HQ hne
          obtain ⟨er2, her2⟩ : ∃ er2 : Int, er2 = er + nxErr bs q := ⟨_, rfl⟩
          rw [← her2] at hL2
          have g0 : 0 ≤ er2 := by omega
          have f1 : er2 ≤ 4000000 := by omega
          have hq1 : 1 ≤ q := by omega
          have hql : q ≤ bs.length := by omega
          clear f0 f1' her2 hg hne hq C HR
          have HL := Lib.hid hL2
          clear hL2 d2
          clear er
          obtain ⟨er, rfl⟩ : ∃ er : Int, er = er2 := ⟨_, rfl⟩
          have f0 := g0
          have FE : Hid (true = false → 1 ≤ er) := Lib.hid (fun hh => by cases hh)
          have d3 := HL.out.off
          obtain ⟨b, o, cap, g1, hcap, hcm, hcc⟩ := HL.out.text (by omega)
          have HCC := Lib.hid hcc
          have i0 : (0 : Int) ≤ (q : Int) := by omega
          have i2 : (q : Int) ≤ (cap : Int) := by omega
          have i3 : ¬ cap = 0 := by omega
          clear hcc
          have kc0 := fun m => conv_list (w2.drewN m) b o cap (sub bs 0 q) (fun j hj => by
            rw [sub_len hql] at hj
            rw [sub_bt hj, Nat.zero_add]
            exact HCC.out j (by omega))
          simp only [sub_len hql, Nat.sub_zero] at kc0
          go_wp2_with fail
          go_quiet (fail)
          go_wp2_with fail
          go_ret
          refine ⟨er, ?_, ?_, f0, f1, ?_⟩
          · rw [HQ.out]; rfl
          · rw [HQ.out]; exact HL.out.draws _
          · rw [HQ.out]; first | exact FE.out | exact fun _ => FE.out trivial
        · have t34 : (nxCh bs p == 34) = false := ch_ne (c := 34) (by omega) (fun hh => k34 hh.2)
          by_cases k92 : bt bs p = 92
          · have hx := nx_ascii hp (by omega)
            have HR2 := Lib.hid (HR.out.trans (strEnd_esc hp k92))
            have hle := escF_le (bs := bs) (p := p + 1) (quote := 34) (by omega)
            have hne2 := nxErr_le (bs := bs) (p := (escF bs (p + 1) 34).2)
            have hee : 0 ≤ escErr (escF bs (p + 1) 34).1 ∧ escErr (escF bs (p + 1) 34).1 ≤ 1 := by unfold escErr; split <;> omega
            rw [hx.1, k92] at d2 t10 t34 tneg
            rw [hx.2] at C hg hne
            clear hx hch HL k34 k10 k92 HR
            go_wp2_with fail
            refine C.out.mono ?_
            rintro e w2 ⟨rfl, hL2, _⟩
            have C2 := Lib.hid (escape_34 hL2 f0 (by omega))
            clear hL2 C
            go_wp2_with fail
            refine C2.out.mono ?_
            rintro e w3 ⟨rfl, hL3⟩
            have HL3 := Lib.hid hL3
            clear hL3 C2
            go_wp2_with fail
            go_roundg (bs.length - (escF bs (p + 1) 34).2)
            case measure => omega
            case rel => exact ⟨(escF bs (p + 1) 34).2, _, rfl, by omega, by omega, HL3, by omega, by omega, HR2⟩
          · have t92 : (nxCh bs p == 92) = false := ch_ne (c := 92) (by omega) (fun hh => k92 hh.2)
            have HR2 := Lib.hid (HR.out.trans (strEnd_char hp ⟨k10, k34, k92⟩))
            clear k10 k34 k92 HR HL
            generalize nxCh bs p = ch at *
            go_wp2_with fail
            refine C.out.mono ?_
            rintro e w2 ⟨rfl, hL2, _⟩
            have HL2 := Lib.hid hL2
            clear hL2 C
            go_wp2_with fail
            go_roundg (bs.length - nxRd bs p)
            case measure => omega
            case rel => exact ⟨nxRd bs p, _, rfl, by omega, by omega, HL2, by omega, by omega, HR2⟩
    · have HQ := Lib.hid (show strEnd bs 1 = (p, false) by rw [HR.out, strEnd_end (by omega)]; congr 1; omega)
      rw [(nx_end (by omega)).1] at d2
      have CE := Lib.hid (live_error HL.out f0 (by omega))
      clear HL HR
      go_wp2_with fail
      refine (CE.out _ _).mono ?_
      rintro e w8 ⟨rfl, hL8⟩
      obtain ⟨er2, her2⟩ : ∃ er2 : Int, er2 = er + 1 := ⟨_, rfl⟩
      rw [← her2] at hL8
      have f0' : 0 ≤ er2 := by omega
      have f1 : er2 ≤ 4000000 := by omega
      have g2 : 1 ≤ er2 := by omega
      obtain ⟨q, hq⟩ : ∃ q, q = p := ⟨_, rfl⟩
      rw [← hq] at hL8 HQ
      have hq1 : 1 ≤ q := by omega
      have hql : q ≤ bs.length := by omega
      have HL := Lib.hid hL8
      clear hL8 CE f0 f1' her2 hq d2
      clear er
      obtain ⟨er, rfl⟩ : ∃ er : Int, er = er2 := ⟨_, rfl⟩
      have f0 := f0'
      have FE : Hid (false = false → 1 ≤ er) := Lib.hid (fun _ => g2)
      have d3 := HL.out.off
      obtain ⟨b, o, cap, g1, hcap, hcm, hcc⟩ := HL.out.text (by omega)
      have HCC := Lib.hid hcc
      have i0 : (0 : Int) ≤ (q : Int) := by omega
      have i2 : (q : Int) ≤ (cap : Int) := by omega
      have i3 : ¬ cap = 0 := by omega
      clear hcc
      have kc0 := fun m => conv_list (w8.drewN m) b o cap (sub bs 0 q) (fun j hj => by
        rw [sub_len hql] at hj
        rw [sub_bt hj, Nat.zero_add]
        exact HCC.out j (by omega))
      simp only [sub_len hql, Nat.sub_zero] at kc0
      go_wp2_with fail
      go_quiet (fail)
      go_wp2_with fail
      go_ret
      refine ⟨er, ?_, ?_, f0, f1, ?_⟩
      · rw [HQ.out]; rfl
      · rw [HQ.out]; exact HL.out.draws _
      · rw [HQ.out]; first | exact FE.out | exact fun _ => FE.out trivial
end Go.Proofs.YtpdfompeoceklaaFmt.Core
