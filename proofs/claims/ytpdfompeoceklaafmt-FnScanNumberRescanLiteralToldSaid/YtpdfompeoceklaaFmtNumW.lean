/-
  Proved: (*Scanner).scanNumber by contract: the token, the literal, where the scanner stands, what it counts.
  Conditions: the library's UTF-8 tables hold what the row lists.
-/
import Derived.Test.YtpdfompeoceklaaFmtDig
import Derived.Deep.DeepCutAuto
import Derived.Deep.CutBlock
namespace Go.Proofs.YtpdfompeoceklaaFmt.Core
open Go.ChangeShapes Go.WideShapes Go.ChangeAt Go.RowKit
set_option linter.unusedVariables false

theorem ch_beq {bs : List UInt8} {q c : Nat} (hc : c < 128) : (nxCh bs q == (c : Int)) = atB bs q c := by
  rw [Bool.eq_iff_iff, beq_iff_eq, nxCh_eq hc, atB_iff]
theorem low_b (c : Nat) : low c = 98 ↔ (c = 98 ∨ c = 66) := by unfold low; split <;> omega
theorem low_o (c : Nat) : low c = 111 ↔ (c = 111 ∨ c = 79) := by unfold low; split <;> omega
theorem low_x (c : Nat) : low c = 120 ↔ (c = 120 ∨ c = 88) := by unfold low; split <;> omega
theorem pk_at {bs : List UInt8} {q c : Nat} (hc : c ≠ 0) : pk bs q = c ↔ atB bs q c = true := by
  rw [atB_iff]
  unfold pk
  split <;> omega
theorem pk_lt (bs : List UInt8) (q : Nat) : pk bs q < 256 := by
  unfold pk
  split
  · exact bt_lt bs q
  · omega
theorem base_b {bs : List UInt8} {p : Nat} (h : atB bs p 48 = true) (hl : low (pk bs (p + 1)) = 98) : baseOf bs p = 2 := by
  rw [low_b, pk_at (by omega), pk_at (by omega)] at hl
  unfold baseOf
  rcases hl with hl | hl <;> simp [h, hl]
theorem base_o {bs : List UInt8} {p : Nat} (h : atB bs p 48 = true) (hl : low (pk bs (p + 1)) = 111) : baseOf bs p = 8 := by
  have hb : ¬ low (pk bs (p + 1)) = 98 := by omega
  rw [low_b, pk_at (by omega), pk_at (by omega)] at hb
  rw [low_o, pk_at (by omega), pk_at (by omega)] at hl
  unfold baseOf
  have h1 : atB bs (p + 1) 98 = false := by simpa using fun h => hb (.inl h)
  have h2 : atB bs (p + 1) 66 = false := by simpa using fun h => hb (.inr h)
  rcases hl with hl | hl <;> simp [h, hl, h1, h2]
theorem base_x {bs : List UInt8} {p : Nat} (h : atB bs p 48 = true) (hl : low (pk bs (p + 1)) = 120) : baseOf bs p = 16 := by
  have hb : ¬ low (pk bs (p + 1)) = 98 := by omega
  have ho : ¬ low (pk bs (p + 1)) = 111 := by omega
  rw [low_b, pk_at (by omega), pk_at (by omega)] at hb
  rw [low_o, pk_at (by omega), pk_at (by omega)] at ho
  rw [low_x, pk_at (by omega), pk_at (by omega)] at hl
  unfold baseOf
  have h1 : atB bs (p + 1) 98 = false := by simpa using fun h => hb (.inl h)
  have h2 : atB bs (p + 1) 66 = false := by simpa using fun h => hb (.inr h)
  have h3 : atB bs (p + 1) 111 = false := by simpa using fun h => ho (.inl h)
  have h4 : atB bs (p + 1) 79 = false := by simpa using fun h => ho (.inr h)
  rcases hl with hl | hl <;> simp [h, hl, h1, h2, h3, h4]
theorem base_no {bs : List UInt8} {p : Nat} (h1 : low (pk bs (p + 1)) ≠ 98) (h2 : low (pk bs (p + 1)) ≠ 111) (h3 : low (pk bs (p + 1)) ≠ 120) : baseOf bs p = 10 := by
  rw [Ne, low_b, pk_at (by omega), pk_at (by omega)] at h1
  rw [Ne, low_o, pk_at (by omega), pk_at (by omega)] at h2
  rw [Ne, low_x, pk_at (by omega), pk_at (by omega)] at h3
  have a1 : atB bs (p + 1) 98 = false := by simpa using fun h => h1 (.inl h)
  have a2 : atB bs (p + 1) 66 = false := by simpa using fun h => h1 (.inr h)
  have a3 : atB bs (p + 1) 111 = false := by simpa using fun h => h2 (.inl h)
  have a4 : atB bs (p + 1) 79 = false := by simpa using fun h => h2 (.inr h)
  have a5 : atB bs (p + 1) 120 = false := by simpa using fun h => h3 (.inl h)
  have a6 : atB bs (p + 1) 88 = false := by simpa using fun h => h3 (.inr h)
  unfold baseOf
  simp [a1, a2, a3, a4, a5, a6]
theorem base_not {bs : List UInt8} {p : Nat} (h : atB bs p 48 = false) : baseOf bs p = 10 := by unfold baseOf; simp [h]
/-- Behind a prefix both bytes are clean. -/
theorem pre_clean {bs : List UInt8} {p : Nat} (h : atB bs p 48 = true) (hl : low (pk bs (p + 1)) = 98 ∨ low (pk bs (p + 1)) = 111 ∨ low (pk bs (p + 1)) = 120) : p < bs.length ∧ bt bs p = 48 ∧ p + 1 < bs.length ∧ 0 < bt bs (p + 1) ∧ bt bs (p + 1) < 128 := by
  rw [low_b, low_o, low_x, pk_at (by omega), pk_at (by omega), pk_at (by omega), pk_at (by omega), pk_at (by omega), pk_at (by omega)] at hl
  rw [atB_iff] at h
  simp only [atB_iff] at hl
  omega

/-- The token: Float or Int. -/
def tokOf (b : Bool) : Int := if b then 6 else 5
theorem digits_ten {w0 : Base} {w : World} {S : Nat} {bs : List UInt8} {semi : Bool} {mode : Int} {p : Nat} {E : Int} (h : Live w0 w S bs semi mode p (E + nxErr bs p)) (h0 : 0 ≤ E) (h1 : E ≤ 1000000) :
    Calls Tryf.prog 42 #[.pointer (some ⟨S, 0, none⟩), .int .i64 10] w fun e w' => e = .returned (.tuple #[]) ∧ Live w0 w' S bs semi mode (digEnd bs 10 p) (E + nxErr bs (digEnd bs 10 p)) := digits_any (base := 10) h h0 h1 (by omega)
set_option maxHeartbeats 8000000 in
set_option maxRecDepth 20000 in
theorem number_any {w0 : Base} {w : World} {S : Nat} {bs : List UInt8} {semi : Bool} {mode : Int} {p : Nat} {E : Int} (h : Live w0 w S bs semi mode p (E + nxErr bs p)) (h0 : 0 ≤ E) (h1 : E ≤ 1000000) (hpe : p < numEnd bs p) :
    Calls Tryf.prog 33 #[.pointer (some ⟨S, 0, none⟩)] w fun e w' => e = .returned (.tuple #[.int .i64 (tokOf (numFloat bs p)), .string ⟨(sub bs p (numEnd bs p)).toArray⟩]) ∧ Live w0 w' S bs semi mode (numEnd bs p) (E + numErr bs p + nxErr bs (numEnd bs p)) := by
  have c3 := h.off
  have c2 := h.ch
  have hple := h.le
  have hlen := h.len
  have H := Lib.hid h
  clear h
  go_enter Tryf.func33, Tryf.ntmps33
  go_upto_block 0 with (fail)
  go_cut [6] (fun vb wx => vb = .int .i64 (baseOf bs p) ∧ Hid (Live w0 wx S bs semi mode (preEnd bs p) (E + nxErr bs (preEnd bs p))))
  case first =>
    have t48 := ch_beq (bs := bs) (q := p) (c := 48) (by omega)
    cases h48 : atB bs p 48 with
    | false =>
      rw [h48] at t48
      have eb := base_not h48
      have ep : preEnd bs p = p := by unfold preEnd; rw [if_pos eb]
      have t48' : (nxCh bs p == 48) = false := t48
      clear h48 t48
      generalize nxCh bs p = ch at *
      go_wp2_with fail
      go_meet
      exact ⟨by rw [eb]; rfl, by rw [ep]; exact H⟩
    | true =>
      have hch : nxCh bs p = 48 := (nxCh_eq (c := 48) (by omega)).2 (atB_iff.1 h48)
      rw [hch] at c2
      have hrd : nxRd bs p = p + 1 := (nx_ascii (atB_iff.1 h48).1 (by rw [(atB_iff.1 h48).2]; omega)).2
      have hpl := pk_lt bs (p + 1)
      have P0 := peek_any H.out
      have PN := fun n => peek_any (H.out.draws n)
      rw [hrd] at P0
      simp only [hrd] at PN
      have K0 := Lib.hid P0
      have KN := Lib.hid PN
      clear P0 PN t48 hch
      by_cases l1 : low (pk bs (p + 1)) = 98
      · have cl := pre_clean h48 (.inl l1)
        have eb := Lib.hid (base_b h48 l1)
        have ep := Lib.hid (show preEnd bs p = p + 2 by unfold preEnd; rw [if_neg (by rw [eb.out]; omega)])
        have z0 := nxErr_clean (bs := bs) (p := p) (by omega) (by omega)
        have z1 := nxErr_clean (bs := bs) (p := p + 1) cl.2.2.2.1 cl.2.2.2.2
        have r1 := (nx_ascii cl.2.2.1 cl.2.2.2.2).2
        have L0 := Lib.hid (lower_any (pk bs (p + 1)))
        rw [l1] at L0
        have C1 := fun n => live_next (H.out.draws n) (by omega) (by omega)
        simp only [hrd, z0, z1, Int.add_zero] at C1
        have CC1 := Lib.hid C1
        have HRD := Lib.hid r1
        have Z1 := Lib.hid z1
        clear h48 C1 r1 z0 z1 hrd cl l1
        generalize pk bs (p + 1) = c at *
        go_wp2_with (first | (go_at_call 41; (with_reducible refine K0.out.mono ?_); rintro e w1 ⟨rfl, k1, rfl⟩) | (go_at_call 41; (with_reducible refine (KN.out _).mono ?_); rintro e w1 ⟨rfl, k1, rfl⟩) | (go_at_call 40; refine (L0.out _ hpl).mono ?_; rintro e w1 ⟨rfl, rfl⟩))
        refine (CC1.out _).mono ?_
        rintro e w2 ⟨rfl, hL2, _⟩
        have hne2 := nxErr_le (bs := bs) (p := p + 2)
        have C2 := Lib.hid (live_next hL2 (by omega) (by omega))
        rw [HRD.out] at C2
        clear hL2 CC1 K0 KN L0
        go_wp2_with fail
        refine C2.out.mono ?_
        rintro e w3 ⟨rfl, hL3, _⟩
        have HL3 := Lib.hid hL3
        clear hL3 C2
        go_wp2_with fail
        go_meet
        exact ⟨by rw [eb.out]; rfl, by rw [ep.out]; exact HL3⟩
      by_cases l2 : low (pk bs (p + 1)) = 111
      · have cl := pre_clean h48 (.inr (.inl l2))
        have eb := Lib.hid (base_o h48 l2)
        have ep := Lib.hid (show preEnd bs p = p + 2 by unfold preEnd; rw [if_neg (by rw [eb.out]; omega)])
        have z0 := nxErr_clean (bs := bs) (p := p) (by omega) (by omega)
        have z1 := nxErr_clean (bs := bs) (p := p + 1) cl.2.2.2.1 cl.2.2.2.2
        have r1 := (nx_ascii cl.2.2.1 cl.2.2.2.2).2
        have L0 := Lib.hid (lower_any (pk bs (p + 1)))
        rw [l2] at L0
        have C1 := fun n => live_next (H.out.draws n) (by omega) (by omega)
        simp only [hrd, z0, z1, Int.add_zero] at C1
        have CC1 := Lib.hid C1
        have HRD := Lib.hid r1
        have Z1 := Lib.hid z1
        clear h48 C1 r1 z0 z1 hrd cl l1 l2
        generalize pk bs (p + 1) = c at *
        go_wp2_with (first | (go_at_call 41; (with_reducible refine K0.out.mono ?_); rintro e w1 ⟨rfl, k1, rfl⟩) | (go_at_call 41; (with_reducible refine (KN.out _).mono ?_); rintro e w1 ⟨rfl, k1, rfl⟩) | (go_at_call 40; refine (L0.out _ hpl).mono ?_; rintro e w1 ⟨rfl, rfl⟩))
        refine (CC1.out _).mono ?_
        rintro e w2 ⟨rfl, hL2, _⟩
        have hne2 := nxErr_le (bs := bs) (p := p + 2)
        have C2 := Lib.hid (live_next hL2 (by omega) (by omega))
        rw [HRD.out] at C2
        clear hL2 CC1 K0 KN L0
        go_wp2_with fail
        refine C2.out.mono ?_
        rintro e w3 ⟨rfl, hL3, _⟩
        have HL3 := Lib.hid hL3
        clear hL3 C2
        go_wp2_with fail
        go_meet
        exact ⟨by rw [eb.out]; rfl, by rw [ep.out]; exact HL3⟩
      by_cases l3 : low (pk bs (p + 1)) = 120
      · have cl := pre_clean h48 (.inr (.inr l3))
        have eb := Lib.hid (base_x h48 l3)
        have ep := Lib.hid (show preEnd bs p = p + 2 by unfold preEnd; rw [if_neg (by rw [eb.out]; omega)])
        have z0 := nxErr_clean (bs := bs) (p := p) (by omega) (by omega)
        have z1 := nxErr_clean (bs := bs) (p := p + 1) cl.2.2.2.1 cl.2.2.2.2
        have r1 := (nx_ascii cl.2.2.1 cl.2.2.2.2).2
        have L0 := Lib.hid (lower_any (pk bs (p + 1)))
        rw [l3] at L0
        have C1 := fun n => live_next (H.out.draws n) (by omega) (by omega)
        simp only [hrd, z0, z1, Int.add_zero] at C1
        have CC1 := Lib.hid C1
        have HRD := Lib.hid r1
        have Z1 := Lib.hid z1
        clear h48 C1 r1 z0 z1 hrd cl l1 l2 l3
        generalize pk bs (p + 1) = c at *
        go_wp2_with (first | (go_at_call 41; (with_reducible refine K0.out.mono ?_); rintro e w1 ⟨rfl, k1, rfl⟩) | (go_at_call 41; (with_reducible refine (KN.out _).mono ?_); rintro e w1 ⟨rfl, k1, rfl⟩) | (go_at_call 40; refine (L0.out _ hpl).mono ?_; rintro e w1 ⟨rfl, rfl⟩))
        refine (CC1.out _).mono ?_
        rintro e w2 ⟨rfl, hL2, _⟩
        have hne2 := nxErr_le (bs := bs) (p := p + 2)
        have C2 := Lib.hid (live_next hL2 (by omega) (by omega))
        rw [HRD.out] at C2
        clear hL2 CC1 K0 KN L0
        go_wp2_with fail
        refine C2.out.mono ?_
        rintro e w3 ⟨rfl, hL3, _⟩
        have HL3 := Lib.hid hL3
        clear hL3 C2
        go_wp2_with fail
        go_meet
        exact ⟨by rw [eb.out]; rfl, by rw [ep.out]; exact HL3⟩
      have eb := Lib.hid (base_no l1 l2 l3)
      have ep := Lib.hid (show preEnd bs p = p by unfold preEnd; rw [if_pos eb.out])
      have L0 := Lib.hid (lower_any (pk bs (p + 1)))
      have m1 : (((low (pk bs (p + 1)) : Nat) : Int) == 98) = false := by rw [beq_eq_false_iff_ne]; omega
      have m2 : (((low (pk bs (p + 1)) : Nat) : Int) == 111) = false := by rw [beq_eq_false_iff_ne]; omega
      have m3 : (((low (pk bs (p + 1)) : Nat) : Int) == 120) = false := by rw [beq_eq_false_iff_ne]; omega
      clear l1 l2 l3 h48 hrd
      generalize low (pk bs (p + 1)) = lc at *
      generalize pk bs (p + 1) = c at *
      go_wp2_with (first | (go_at_call 41; (with_reducible refine K0.out.mono ?_); rintro e w1 ⟨rfl, k1, rfl⟩) | (go_at_call 41; (with_reducible refine (KN.out _).mono ?_); rintro e w1 ⟨rfl, k1, rfl⟩) | (go_at_call 40; refine (L0.out _ hpl).mono ?_; rintro e w1 ⟨rfl, rfl⟩))
      go_meet
      exact ⟨by rw [eb.out]; rfl, by rw [ep.out]; exact Lib.hid (H.out.draws _)⟩
  case rest =>
    obtain ⟨rfl, HL1⟩ := hcut
    obtain ⟨wa, rfl⟩ : ∃ wa : World, wa = wc := ⟨_, rfl⟩
    have hb16 := baseOf_le bs p
    have bp := preEnd_le hple
    have bw := wholeEnd_le hple
    have bf := fracEnd_le hple
    have bn := numEnd_le hple
    have D := Lib.hid (digits_any HL1.out h0 h1 hb16)
    clear H c2 c3 HL1
    go_upto_region 17 with (first | (go_at_call 42; refine D.out.mono ?_; rintro e w2 ⟨rfl, hL2⟩))
    have HL2 := Lib.hid (show Live w0 w2 S bs semi mode (wholeEnd bs p) (E + nxErr bs (wholeEnd bs p)) from hL2)
    clear hL2 D
    have d2 := HL2.out.ch
    go_cut [75] (fun s wx => s = .bool (isDot bs p) ∧ w2 = wx)
    case first =>
      have t46 : (nxCh bs (wholeEnd bs p) == 46) = atB bs (wholeEnd bs p) 46 := ch_beq (c := 46) (by omega)
      cases ha : atB bs (wholeEnd bs p) 46 with
      | false =>
        rw [ha] at t46
        have ed : isDot bs p = false := by unfold isDot; rw [ha]; rfl
        have ED := Lib.hid ed
        clear ha ed
        go_wp2_with fail
        go_meet
        exact ⟨by rw [ED.out]; first | done | rfl, rfl⟩
      | true =>
        rw [ha] at t46
        by_cases b1 : baseOf bs p = 10
        · have ed : isDot bs p = true := by unfold isDot; rw [ha, b1]; rfl
          have ED := Lib.hid ed
          have u1 : (((baseOf bs p : Nat) : Int) == 10) = true := by rw [beq_iff_eq]; omega
          clear ha ed b1
          go_wp2_with fail
          go_meet
          exact ⟨by rw [ED.out]; first | done | rfl, rfl⟩
        · have u1 : (((baseOf bs p : Nat) : Int) == 10) = false := by rw [beq_eq_false_iff_ne]; omega
          by_cases b2 : baseOf bs p = 16
          · have ed : isDot bs p = true := by unfold isDot; rw [ha, b2]; rfl
            have ED := Lib.hid ed
            have u2 : (((baseOf bs p : Nat) : Int) == 16) = true := by rw [beq_iff_eq]; omega
            clear ha ed b1 b2
            go_wp2_with fail
            go_meet
            exact ⟨by rw [ED.out]; first | done | rfl, rfl⟩
          · have ed : isDot bs p = false := by
              unfold isDot
              have e1 : (baseOf bs p == 10) = false := by simpa using b1
              have e2 : (baseOf bs p == 16) = false := by simpa using b2
              rw [ha, e1, e2]; rfl
            have ED := Lib.hid ed
            have u2 : (((baseOf bs p : Nat) : Int) == 16) = false := by rw [beq_eq_false_iff_ne]; omega
            clear ha ed b1 b2
            go_wp2_with fail
            go_meet
            exact ⟨by rw [ED.out]; first | done | rfl, rfl⟩
    case rest =>
      obtain ⟨rfl, rfl⟩ := hcut
      go_upto_if 75 with (fail)
      go_cut [5] (fun vt wx => vt = .int .i64 (tokOf (isDot bs p)) ∧ Hid (Live w0 wx S bs semi mode (fracEnd bs p) (E + nxErr bs (fracEnd bs p))))
      case first =>
        cases hd : isDot bs p with
        | false =>
          have ef := Lib.hid (show fracEnd bs p = wholeEnd bs p by unfold fracEnd; rw [hd]; rfl)
          go_wp2_with fail
          go_meet
          exact ⟨by rw [hd]; rfl, by rw [ef.out]; exact HL2⟩
        | true =>
          have ef := Lib.hid (show fracEnd bs p = digEnd bs (baseOf bs p) (wholeEnd bs p + 1) by unfold fracEnd; rw [hd]; rfl)
          have h46 : wholeEnd bs p < bs.length ∧ bt bs (wholeEnd bs p) = 46 := by
            have h := hd
            unfold isDot at h
            simp only [Bool.and_eq_true, atB_iff] at h
            exact h.1
          have z0 := nxErr_clean (bs := bs) (p := wholeEnd bs p) (by omega) (by omega)
          have r1 := (nx_ascii h46.1 (by omega)).2
          have hne := nxErr_le (bs := bs) (p := wholeEnd bs p + 1)
          have C := Lib.hid (live_next HL2.out (by omega) (by omega))
          rw [r1, z0, Int.add_zero] at C
          clear z0 r1 HL2 h46
          go_wp2_with fail
          refine C.out.mono ?_
          rintro e w3 ⟨rfl, hL3, _⟩
          have D2 := Lib.hid (digits_any hL3 h0 h1 hb16)
          clear hL3 C d2
          go_wp2_with fail
          refine D2.out.mono ?_
          rintro e w4 ⟨rfl, hL4⟩
          have HL4 := Lib.hid hL4
          clear hL4 D2
          go_wp2_with fail
          go_meet
          exact ⟨by rw [hd]; rfl, by rw [ef.out]; exact HL4⟩
      case rest =>
        obtain ⟨rfl, HL3⟩ := hcut
        obtain ⟨wb, rfl⟩ : ∃ wb : World, wb = wc := ⟨_, rfl⟩
        have f2 := HL3.out.ch
        clear HL2 d2
        go_upto_region 21 with (fail)
        go_cut [106] (fun s wx => s = .bool (isExp bs (fracEnd bs p)) ∧ wb = wx)
        case first =>
          have t1 : (nxCh bs (fracEnd bs p) == 101) = atB bs (fracEnd bs p) 101 := ch_beq (c := 101) (by omega)
          have t2 : (nxCh bs (fracEnd bs p) == 69) = atB bs (fracEnd bs p) 69 := ch_beq (c := 69) (by omega)
          have t3 : (nxCh bs (fracEnd bs p) == 112) = atB bs (fracEnd bs p) 112 := ch_beq (c := 112) (by omega)
          have t4 : (nxCh bs (fracEnd bs p) == 80) = atB bs (fracEnd bs p) 80 := ch_beq (c := 80) (by omega)
          have ed : isExp bs (fracEnd bs p) = (atB bs (fracEnd bs p) 101 || atB bs (fracEnd bs p) 69 || atB bs (fracEnd bs p) 112 || atB bs (fracEnd bs p) 80) := rfl
          cases a1 : atB bs (fracEnd bs p) 101 with
          | true =>
            rw [a1] at t1 ed
            have ED := Lib.hid ed
            clear ed t2 t3 t4 a1
            go_wp2_with fail
            go_meet
            exact ⟨by rw [ED.out]; first | done | rfl, rfl⟩
          | false =>
            rw [a1] at t1 ed
            cases a2 : atB bs (fracEnd bs p) 69 with
            | true =>
              rw [a2] at t2 ed
              have ED := Lib.hid ed
              clear ed t3 t4 a1 a2
              go_wp2_with fail
              go_meet
              exact ⟨by rw [ED.out]; first | done | rfl, rfl⟩
            | false =>
              rw [a2] at t2 ed
              cases a3 : atB bs (fracEnd bs p) 112 with
              | true =>
                rw [a3] at t3 ed
                have ED := Lib.hid ed
                clear ed t4 a1 a2 a3
                go_wp2_with fail
                go_meet
                exact ⟨by rw [ED.out]; first | done | rfl, rfl⟩
              | false =>
                rw [a3] at t3 ed
                cases a4 : atB bs (fracEnd bs p) 80 with
                | true =>
                  rw [a4] at t4 ed
                  have ED := Lib.hid ed
                  clear ed a1 a2 a3 a4
                  go_wp2_with fail
                  go_meet
                  exact ⟨by rw [ED.out]; first | done | rfl, rfl⟩
                | false =>
                  rw [a4] at t4 ed
                  have ED := Lib.hid ed
                  clear ed a1 a2 a3 a4
                  go_wp2_with fail
                  go_meet
                  exact ⟨by rw [ED.out]; first | done | rfl, rfl⟩
        case rest =>
          obtain ⟨rfl, rfl⟩ := hcut
          go_upto_if 106 with (fail)
          go_cut [5] (fun vt wx => vt = .int .i64 (tokOf (numFloat bs p)) ∧ Hid (Live w0 wx S bs semi mode (numEnd bs p) (E + numErr bs p + nxErr bs (numEnd bs p))))
          case first =>
            cases he : isExp bs (fracEnd bs p) with
            | false =>
              have en := Lib.hid (show numEnd bs p = fracEnd bs p by unfold numEnd; rw [he]; rfl)
              have er := Lib.hid (show numErr bs p = 0 by unfold numErr; rw [he]; rfl)
              have ef := Lib.hid (show numFloat bs p = isDot bs p by unfold numFloat; rw [he]; simp)
              clear he
              go_wp2_with fail
              go_meet
              exact ⟨by rw [ef.out], by rw [en.out, er.out, Int.add_zero]; exact HL3⟩
            | true =>
              have en := Lib.hid (show numEnd bs p = expEnd bs (fracEnd bs p) by unfold numEnd; rw [he]; rfl)
              have ef := Lib.hid (show numFloat bs p = true by unfold numFloat; rw [he]; simp)
              have hx : fracEnd bs p < bs.length ∧ (bt bs (fracEnd bs p) = 101 ∨ bt bs (fracEnd bs p) = 69 ∨ bt bs (fracEnd bs p) = 112 ∨ bt bs (fracEnd bs p) = 80) := by
                have h := he
                unfold isExp at h
                simp only [Bool.or_eq_true, atB_iff] at h
                omega
              replace he := Lib.hid he
              have z0 := nxErr_clean (bs := bs) (p := fracEnd bs p) (by omega) (by omega)
              have r1 := (nx_ascii hx.1 (by omega)).2
              have hne := nxErr_le (bs := bs) (p := fracEnd bs p + 1)
              have C := Lib.hid (live_next HL3.out (by omega) (by omega))
              rw [r1, z0, Int.add_zero] at C
              clear z0 r1 HL3 hx
              go_wp2_with fail
              refine C.out.mono ?_
              rintro e w3 ⟨rfl, hL3, _⟩
              have HLx := Lib.hid hL3
              have x2 := hL3.ch
              clear hL3 C f2
              have t45 : (nxCh bs (fracEnd bs p + 1) == 45) = atB bs (fracEnd bs p + 1) 45 := ch_beq (c := 45) (by omega)
              have t43 : (nxCh bs (fracEnd bs p + 1) == 43) = atB bs (fracEnd bs p + 1) 43 := ch_beq (c := 43) (by omega)
              cases a45 : atB bs (fracEnd bs p + 1) 45 with
              | true =>
                rw [a45] at t45
                clear t43
                have es := Lib.hid (show signEnd bs (fracEnd bs p + 1) = fracEnd bs p + 1 + 1 by unfold signEnd; rw [if_pos (by simp [a45])])
                have ha := atB_iff.1 a45
                have z1 := nxErr_clean (bs := bs) (p := fracEnd bs p + 1) (by omega) (by omega)
                have r2 := (nx_ascii ha.1 (by omega)).2
                have hne2 := nxErr_le (bs := bs) (p := fracEnd bs p + 1 + 1)
                have CS := Lib.hid (live_next HLx.out (by omega) (by omega))
                rw [r2, z1, Int.add_zero, ← es.out] at CS
                clear z1 r2 ha HLx a45
                go_wp2_with fail
                refine CS.out.mono ?_
                rintro e w5 ⟨rfl, hL5, _⟩
                have HL5 := Lib.hid hL5
                clear hL5 CS x2
                have s3 := HL5.out.off
                have DD := Lib.hid (digits_ten HL5.out h0 h1)
                clear HL5
                go_wp2_with fail
                refine DD.out.mono ?_
                rintro e w6 ⟨rfl, hL6⟩
                have e3 := hL6.off
                have HL6 := Lib.hid hL6
                clear hL6 DD
                by_cases hee : signEnd bs (fracEnd bs p + 1) = digEnd bs 10 (signEnd bs (fracEnd bs p + 1))
                · have u : (((signEnd bs (fracEnd bs p + 1) : Nat) : Int) == ((digEnd bs 10 (signEnd bs (fracEnd bs p + 1)) : Nat) : Int)) = true := by rw [beq_iff_eq]; omega
                  have er := Lib.hid (show numErr bs p = 1 by unfold numErr expEnd; rw [he.out, ← hee]; simp)
                  have hne6 := nxErr_le (bs := bs) (p := digEnd bs 10 (signEnd bs (fracEnd bs p + 1)))
                  have CE := Lib.hid (live_error HL6.out (by omega) (by omega))
                  clear hee
                  go_wp2_with fail
                  refine (CE.out _ _).mono ?_
                  rintro e w7 ⟨rfl, hL7⟩
                  have HL7 := Lib.hid hL7
                  clear hL7 CE
                  go_wp2_with fail
                  go_meet
                  refine ⟨by rw [ef.out]; rfl, ?_⟩
                  rw [en.out, er.out, show E + 1 + nxErr bs (expEnd bs (fracEnd bs p)) = E + nxErr bs (expEnd bs (fracEnd bs p)) + 1 by omega]
                  exact HL7
                · have u : (((signEnd bs (fracEnd bs p + 1) : Nat) : Int) == ((digEnd bs 10 (signEnd bs (fracEnd bs p + 1)) : Nat) : Int)) = false := by rw [beq_eq_false_iff_ne]; omega
                  have er := Lib.hid (show numErr bs p = 0 by unfold numErr expEnd; rw [he.out]; simp [hee])
                  clear hee
                  go_wp2_with fail
                  go_meet
                  refine ⟨by rw [ef.out]; rfl, ?_⟩
                  rw [en.out, er.out, Int.add_zero]
                  exact HL6
              | false =>
                rw [a45] at t45
                cases a43 : atB bs (fracEnd bs p + 1) 43 with
                | true =>
                  rw [a43] at t43
                  have es := Lib.hid (show signEnd bs (fracEnd bs p + 1) = fracEnd bs p + 1 + 1 by unfold signEnd; rw [if_pos (by simp [a43])])
                  have ha := atB_iff.1 a43
                  have z1 := nxErr_clean (bs := bs) (p := fracEnd bs p + 1) (by omega) (by omega)
                  have r2 := (nx_ascii ha.1 (by omega)).2
                  have hne2 := nxErr_le (bs := bs) (p := fracEnd bs p + 1 + 1)
                  have CS := Lib.hid (live_next HLx.out (by omega) (by omega))
                  rw [r2, z1, Int.add_zero, ← es.out] at CS
                  clear z1 r2 ha HLx a45 a43
                  go_wp2_with fail
                  refine CS.out.mono ?_
                  rintro e w5 ⟨rfl, hL5, _⟩
                  have HL5 := Lib.hid hL5
                  clear hL5 CS x2
                  have s3 := HL5.out.off
                  have DD := Lib.hid (digits_ten HL5.out h0 h1)
                  clear HL5
                  go_wp2_with fail
                  refine DD.out.mono ?_
                  rintro e w6 ⟨rfl, hL6⟩
                  have e3 := hL6.off
                  have HL6 := Lib.hid hL6
                  clear hL6 DD
                  by_cases hee : signEnd bs (fracEnd bs p + 1) = digEnd bs 10 (signEnd bs (fracEnd bs p + 1))
                  · have u : (((signEnd bs (fracEnd bs p + 1) : Nat) : Int) == ((digEnd bs 10 (signEnd bs (fracEnd bs p + 1)) : Nat) : Int)) = true := by rw [beq_iff_eq]; omega
                    have er := Lib.hid (show numErr bs p = 1 by unfold numErr expEnd; rw [he.out, ← hee]; simp)
                    have hne6 := nxErr_le (bs := bs) (p := digEnd bs 10 (signEnd bs (fracEnd bs p + 1)))
                    have CE := Lib.hid (live_error HL6.out (by omega) (by omega))
                    clear hee
                    go_wp2_with fail
                    refine (CE.out _ _).mono ?_
                    rintro e w7 ⟨rfl, hL7⟩
                    have HL7 := Lib.hid hL7
                    clear hL7 CE
                    go_wp2_with fail
                    go_meet
                    refine ⟨by rw [ef.out]; rfl, ?_⟩
                    rw [en.out, er.out, show E + 1 + nxErr bs (expEnd bs (fracEnd bs p)) = E + nxErr bs (expEnd bs (fracEnd bs p)) + 1 by omega]
                    exact HL7
                  · have u : (((signEnd bs (fracEnd bs p + 1) : Nat) : Int) == ((digEnd bs 10 (signEnd bs (fracEnd bs p + 1)) : Nat) : Int)) = false := by rw [beq_eq_false_iff_ne]; omega
                    have er := Lib.hid (show numErr bs p = 0 by unfold numErr expEnd; rw [he.out]; simp [hee])
                    clear hee
                    go_wp2_with fail
                    go_meet
                    refine ⟨by rw [ef.out]; rfl, ?_⟩
                    rw [en.out, er.out, Int.add_zero]
                    exact HL6
                | false =>
                  rw [a43] at t43
                  have es := Lib.hid (show signEnd bs (fracEnd bs p + 1) = fracEnd bs p + 1 by unfold signEnd; rw [if_neg (by simp [a45, a43])])
                  rw [← es.out] at HLx
                  clear a45 a43
                  have s3 := HLx.out.off
                  have DD := Lib.hid (digits_ten HLx.out h0 h1)
                  clear HLx
                  go_wp2_with fail
                  refine DD.out.mono ?_
                  rintro e w6 ⟨rfl, hL6⟩
                  have e3 := hL6.off
                  have HL6 := Lib.hid hL6
                  clear hL6 DD
                  by_cases hee : signEnd bs (fracEnd bs p + 1) = digEnd bs 10 (signEnd bs (fracEnd bs p + 1))
                  · have u : (((signEnd bs (fracEnd bs p + 1) : Nat) : Int) == ((digEnd bs 10 (signEnd bs (fracEnd bs p + 1)) : Nat) : Int)) = true := by rw [beq_iff_eq]; omega
                    have er := Lib.hid (show numErr bs p = 1 by unfold numErr expEnd; rw [he.out, ← hee]; simp)
                    have hne6 := nxErr_le (bs := bs) (p := digEnd bs 10 (signEnd bs (fracEnd bs p + 1)))
                    have CE := Lib.hid (live_error HL6.out (by omega) (by omega))
                    clear hee
                    go_wp2_with fail
                    refine (CE.out _ _).mono ?_
                    rintro e w7 ⟨rfl, hL7⟩
                    have HL7 := Lib.hid hL7
                    clear hL7 CE
                    go_wp2_with fail
                    go_meet
                    refine ⟨by rw [ef.out]; rfl, ?_⟩
                    rw [en.out, er.out, show E + 1 + nxErr bs (expEnd bs (fracEnd bs p)) = E + nxErr bs (expEnd bs (fracEnd bs p)) + 1 by omega]
                    exact HL7
                  · have u : (((signEnd bs (fracEnd bs p + 1) : Nat) : Int) == ((digEnd bs 10 (signEnd bs (fracEnd bs p + 1)) : Nat) : Int)) = false := by rw [beq_eq_false_iff_ne]; omega
                    have er := Lib.hid (show numErr bs p = 0 by unfold numErr expEnd; rw [he.out]; simp [hee])
                    clear hee
                    go_wp2_with fail
                    go_meet
                    refine ⟨by rw [ef.out]; rfl, ?_⟩
                    rw [en.out, er.out, Int.add_zero]
                    exact HL6
          case rest =>
            obtain ⟨rfl, HL4⟩ := hcut
            obtain ⟨we, rfl⟩ : ∃ we : World, we = wc := ⟨_, rfl⟩
            clear f2 HL3
            have g3 := HL4.out.off
            obtain ⟨b, o, cap, g1, hcap, hcm, hc⟩ := HL4.out.text (by omega)
            have kc := fun n => conv_sub we b o (cap - p) bs p (numEnd bs p) (by omega) (by omega) hc n
            clear hc
            have i0 : (0 : Int) ≤ (p : Int) := by omega
            have i1 : (p : Int) ≤ (numEnd bs p : Int) := by omega
            have i2 : (numEnd bs p : Int) ≤ (cap : Int) := by omega
            have i3 : ¬ cap = p := by omega
            go_wp2_with fail
            go_quiet (fail)
            go_wp2_with fail
            go_ret2
            exact ⟨rfl, HL4.out.draws _⟩
end Go.Proofs.YtpdfompeoceklaaFmt.Core
