/-
  Proved: (*Scanner).scanEscape by contract: its answer, where the scanner stands, what it counts.
  Conditions: the library's UTF-8 tables hold what the row lists. fmt's text is met, and nothing hangs on it.
-/
import Derived.Test.YtpdfompeoceklaaFmtDig
import Derived.Test.YtpdfompeoceklaaFmtEsc
import Derived.Test.YtpdfompeoceklaaFmtFmtF
import Derived.Deep.LoopGhost
namespace Go.Proofs.YtpdfompeoceklaaFmt.Core
open Go.ChangeShapes Go.WideShapes Go.ChangeAt Go.RowKit
set_option linter.unusedVariables false

/-- What an escape counts. -/
def escErr (b : Bool) : Int := if b then 0 else 1
theorem pow_step (B x m d : Nat) (h : (x + 1) * B ^ (m + 1) ≤ 4294967296) (hd : d < B) : (x * B + d + 1) * B ^ m ≤ 4294967296 ∧ x * B + d < 4294967296 := by
  have h1 : x * B + d + 1 ≤ (x + 1) * B := by rw [Nat.add_mul, Nat.one_mul]; omega
  have h2 : (x * B + d + 1) * B ^ m ≤ (x + 1) * B * B ^ m := Nat.mul_le_mul_right _ h1
  have h3 : (x + 1) * B * B ^ m = (x + 1) * B ^ (m + 1) := by rw [Nat.pow_succ, Nat.mul_assoc, Nat.mul_comm B]
  have h4 : 0 < B ^ m := Nat.pow_pos (by omega)
  have h5 : (x * B + d + 1) * 1 ≤ (x * B + d + 1) * B ^ m := Nat.mul_le_mul_left _ h4
  omega
theorem escDig_next {bs : List UInt8} {B m q x : Nat} (h : q < bs.length ∧ dv (bt bs q : Int) < B) : escDig bs B (m + 1) q x = escDig bs B m (q + 1) (x * B + dv (bt bs q : Int)) := by
  show (if _ then _ else _) = _
  rw [if_pos h]
theorem escDig_fail {bs : List UInt8} {B m q x : Nat} (h : ¬ (q < bs.length ∧ dv (bt bs q : Int) < B)) : escDig bs B (m + 1) q x = (false, q, x) := by
  show (if _ then _ else _) = _
  rw [if_neg h]
/-- What scanEscape leaves. -/
def Escaped (w0 : Base) (S : Nat) (bs : List UInt8) (semi : Bool) (mode : Int) (E : Int) (r : Bool × Nat) (e : Ending) (w' : World) : Prop :=
  e = .returned (.bool r.1) ∧ Live w0 w' S bs semi mode r.2 (E + escErr r.1 + nxErr bs r.2)
theorem Escaped.yes {w0 : Base} {S : Nat} {bs : List UInt8} {semi : Bool} {mode : Int} {E : Int} {r : Bool × Nat} {q : Nat} {w' : World} (hr : r = (true, q)) (h : Live w0 w' S bs semi mode q (E + nxErr bs q)) : Escaped w0 S bs semi mode E r (.returned (.bool true)) w' := by
  subst hr
  exact ⟨rfl, by show Live w0 w' S bs semi mode q (E + 0 + nxErr bs q); rw [Int.add_zero]; exact h⟩
theorem Escaped.no {w0 : Base} {S : Nat} {bs : List UInt8} {semi : Bool} {mode : Int} {E : Int} {r : Bool × Nat} {q : Nat} {w' : World} (hr : r = (false, q)) (h : Live w0 w' S bs semi mode q (E + nxErr bs q + 1)) : Escaped w0 S bs semi mode E r (.returned (.bool false)) w' := by
  subst hr
  refine ⟨rfl, ?_⟩
  show Live w0 w' S bs semi mode q (E + 1 + nxErr bs q)
  rw [show E + 1 + nxErr bs q = E + nxErr bs q + 1 by omega]
  exact h
theorem ch_ne0 {bs : List UInt8} {p c : Nat} (hc : c < 128) (h : ¬ (p < bs.length ∧ bt bs p = c)) : (nxCh bs p == (c : Int)) = false := by
  rw [beq_eq_false_iff_ne]
  exact fun hh => h ((nxCh_eq hc).1 hh)
set_option maxHeartbeats 8000000 in
set_option maxRecDepth 20000 in
theorem esc_simple34 {w0 : Base} {w : World} {S : Nat} {bs : List UInt8} {semi : Bool} {mode : Int} {p : Nat} {E : Int} (h : Live w0 w S bs semi mode p (E + nxErr bs p)) (h0 : 0 ≤ E) (h1 : E ≤ 3000000) (hp : p < bs.length) (hc : simple (bt bs p) 34 = true) :
    Calls Tryf.prog 38 #[.pointer (some ⟨S, 0, none⟩), .int .i32 34] w (Escaped w0 S bs semi mode E (escF bs p 34)) := by
  have hr : escF bs p 34 = (true, p + 1) := by unfold escF; rw [if_pos hp, if_pos hc]
  have HR := Lib.hid hr
  have hc' : bt bs p = 97 ∨ bt bs p = 98 ∨ bt bs p = 102 ∨ bt bs p = 110 ∨ bt bs p = 114 ∨ bt bs p = 116 ∨ bt bs p = 118 ∨ bt bs p = 92 ∨ bt bs p = 34 := by simpa [simple] using hc
  have hx := nx_ascii hp (by omega)
  have z0 := nxErr_clean (bs := bs) (p := p) (by omega) (by omega)
  have hne := nxErr_le (bs := bs) (p := p + 1)
  have c2 := h.ch
  have c3 := h.off
  have C := Lib.hid (live_next h (by omega) (by omega))
  rw [hx.2, z0, Int.add_zero] at C
  have hch := hx.1
  clear h hr hc hx z0
  rcases hc' with hc' | hc' | hc' | hc' | hc' | hc' | hc' | hc' | hc'
  all_goals
    rw [hch, hc'] at c2
    clear hch hc'
    go_enter Tryf.func38, Tryf.ntmps38
    go_wp2_with fail
    refine C.out.mono ?_
    rintro e w1 ⟨rfl, hL, _⟩
    have HL := Lib.hid hL
    clear hL C
    go_wp2_with fail
    go_ret
    exact Escaped.yes HR.out HL.out
set_option maxHeartbeats 8000000 in
set_option maxRecDepth 20000 in
theorem esc_oct34 {w0 : Base} {w : World} {S : Nat} {bs : List UInt8} {semi : Bool} {mode : Int} {p : Nat} {E : Int} (h : Live w0 w S bs semi mode p (E + nxErr bs p)) (h0 : 0 ≤ E) (h1 : E ≤ 3000000) (hp : p < bs.length) (hc : 48 ≤ bt bs p ∧ bt bs p ≤ 55) :
    Calls Tryf.prog 38 #[.pointer (some ⟨S, 0, none⟩), .int .i32 34] w (Escaped w0 S bs semi mode E (escF bs p 34)) := by
  have hr : escF bs p 34 = escVal 255 (escDig bs 8 3 p 0) := by
    unfold escF
    rw [if_pos hp, if_neg (by unfold simple; simp; omega), if_pos hc]
  have HR := Lib.hid hr
  have hc' : bt bs p = 48 ∨ bt bs p = 49 ∨ bt bs p = 50 ∨ bt bs p = 51 ∨ bt bs p = 52 ∨ bt bs p = 53 ∨ bt bs p = 54 ∨ bt bs p = 55 := by omega
  have hx := nx_ascii hp (by omega)
  have c2 := h.ch
  have c3 := h.off
  have HLs := Lib.hid h
  have hch := hx.1
  clear h hr hc hx
  rcases hc' with hc' | hc' | hc' | hc' | hc' | hc' | hc' | hc'
  all_goals
    rw [hch, hc'] at c2
    clear hch hc'
    go_enter Tryf.func38, Tryf.ntmps38
    go_wp2_with fail
    clear c2 c3
    go_loopg [6, 10, 11] 3 (fun g v6 v10 _ wr => ∃ (m q x : Nat), m = g ∧ v6 = .int .i64 m ∧ v10 = .int .u32 x ∧ m ≤ 3 ∧ Hid ((x + 1) * 8 ^ m ≤ 4294967296) ∧ Hid (Live w0 wr S bs semi mode q (E + nxErr bs q)) ∧ Hid (escDig bs 8 3 (p) 0 = escDig bs 8 m q x))
    case atStart => exact ⟨3, p, 0, rfl, rfl, rfl, by omega, Lib.hid (by decide), HLs, Lib.hid rfl⟩
    case round =>
      obtain ⟨m, q, x, rfl, rfl, rfl, hm, HX, HL, HD⟩ := hrel
      have d2 := HL.out.ch
      have d3 := HL.out.off
      have hle := HL.out.le
      have hr := nxCh_range bs q
      have hne := nxErr_le (bs := bs) (p := q)
      cases m with
      | succ m =>
        have hpos : decide ((0 : Int) < ((m + 1 : Nat) : Int)) = true := decide_eq_true (by omega)
        by_cases hd : q < bs.length ∧ dv (bt bs q : Int) < 8
        · have hdn := escDig_next (m := m) (x := x) hd
          have hps := pow_step 8 x m _ HX.out hd.2
          have hasc := dv_ascii (c := (bt bs q : Int)) (by omega)
          have hx := nx_ascii hd.1 (by omega)
          have z0 := nxErr_clean (bs := bs) (p := q) (by omega) (by omega)
          have hne2 := nxErr_le (bs := bs) (p := q + 1)
          have C := Lib.hid (live_next HL.out (by omega) (by omega))
          rw [hx.2, z0, Int.add_zero] at C
          have D := Lib.hid (digitVal_any (nxCh bs q) wr hr.1 hr.2)
          rw [hx.1] at D d2
          have HD2 := Lib.hid (HD.out.trans hdn)
          have HX2 := Lib.hid hps.1
          have hps2 := hps.2
          have hdl := hd.2
          clear hdn hps hx z0 hd hasc hr
          generalize dv (bt bs q : Int) = d at *
          generalize bt bs q = c at *
          have td : decide ((8 : Int) ≤ (d : Int)) = false := decide_eq_false (by omega)
          go_wp2_with (first | (go_at_call 47; refine D.out.mono ?_; rintro e w1 ⟨rfl, rfl⟩))
          refine C.out.mono ?_
          rintro e w2 ⟨rfl, hL2, _⟩
          have HL2 := Lib.hid hL2
          clear hL2 C
          go_wp2_with fail
          go_roundg m
          case measure => omega
          case rel => exact ⟨m, q + 1, x * 8 + d, rfl, by go_num, by go_num, by omega, HX2, HL2, HD2⟩
        · have hdf := escDig_fail (m := m) (x := x) hd
          have HR2 := Lib.hid (show escF bs p 34 = (false, q) by rw [HR.out, HD.out, hdf]; rfl)
          have hdv : ¬ dv (nxCh bs q) < 8 := fun hh => hd ((dv_ch (by omega)).1 hh)
          have hdl := dv_le (nxCh bs q)
          have D := Lib.hid (digitVal_any (nxCh bs q) wr hr.1 hr.2)
          clear hdf hd HR HD
          generalize hgd : dv (nxCh bs q) = d at *
          clear hgd
          have td : decide ((8 : Int) ≤ (d : Int)) = true := decide_eq_true (by omega)
          by_cases hq : nxCh bs q < 0
          · have tq : decide (nxCh bs q < 0) = true := decide_eq_true hq
            generalize nxCh bs q = ch at *
            have hSlt := HL.out.lt
            have CE := Lib.hid (fun (ob : Obj) => live_error (show Live w0 (wr.alloc ob).drew S bs semi mode q (E + nxErr bs q) from (HL.out.later ((Below.refl _ _).alloc (Nat.le_refl _) ob)).draws 1) (by omega) (by omega))
            clear HL
            have FC := fun (args : Array Value) (v : World) => FmtF.call args v
            have FG := fun (nm : String) (v : World) => FmtF.guard nm v
            have FP := FmtF.printed
            have FO := fun (nm : String) (x : Int) (v : World) => FmtF.operand nm x v
            go_wp2_with (first | (go_at_call 47; refine D.out.mono ?_; rintro e w1 ⟨rfl, rfl⟩))
            refine (CE.out _ _ _).mono ?_
            rintro e w8 ⟨rfl, hL8⟩
            have HL8 := Lib.hid hL8
            clear hL8 CE
            go_wp2_with fail
            go_ret
            exact Escaped.no HR2.out HL8.out
          · have tq : decide (nxCh bs q < 0) = false := decide_eq_false hq
            generalize nxCh bs q = ch at *
            have hSlt := HL.out.lt
            have CE := Lib.hid (fun (ob : Obj) => live_error (show Live w0 (wr.alloc ob).drew S bs semi mode q (E + nxErr bs q) from (HL.out.later ((Below.refl _ _).alloc (Nat.le_refl _) ob)).draws 1) (by omega) (by omega))
            clear HL
            have FC := fun (args : Array Value) (v : World) => FmtF.call args v
            have FG := fun (nm : String) (v : World) => FmtF.guard nm v
            have FP := FmtF.printed
            have FO := fun (nm : String) (x : Int) (v : World) => FmtF.operand nm x v
            go_wp2_with (first | (go_at_call 47; refine D.out.mono ?_; rintro e w1 ⟨rfl, rfl⟩))
            refine (CE.out _ _ _).mono ?_
            rintro e w8 ⟨rfl, hL8⟩
            have HL8 := Lib.hid hL8
            clear hL8 CE
            go_wp2_with fail
            go_ret
            exact Escaped.no HR2.out HL8.out
      | zero =>
        have hz := show escF bs p 34 = escVal 255 (true, q, x) by rw [HR.out, HD.out]; rfl
        have hxb : x < 4294967296 := by have := HX.out; simp at this; omega
        by_cases k1 : 255 < x
        · have HR2 := Lib.hid (show escF bs p 34 = (false, q) by rw [hz]; unfold escVal; simp [k1])
          have t1 : decide ((255 : Int) < (x : Int)) = true := decide_eq_true (by omega)
          have CE := Lib.hid (live_error HL.out (by omega) (by omega))
          clear hz HR HD HL
          go_wp2_with fail
          refine (CE.out _ _).mono ?_
          rintro e w8 ⟨rfl, hL8⟩
          have HL8 := Lib.hid hL8
          clear hL8 CE
          go_wp2_with fail
          go_ret
          exact Escaped.no HR2.out HL8.out
        · have t1 : decide ((255 : Int) < (x : Int)) = false := decide_eq_false (by omega)
          by_cases k2 : 55296 ≤ x
          · have t2 : decide ((55296 : Int) ≤ (x : Int)) = true := decide_eq_true (by omega)
            by_cases k3 : x < 57344
            · have t3 : decide ((x : Int) < 57344) = true := decide_eq_true (by omega)
              have HR2 := Lib.hid (show escF bs p 34 = (false, q) by rw [hz]; unfold escVal; simp [k2, k3])
              have CE := Lib.hid (live_error HL.out (by omega) (by omega))
              clear hz HR HD HL
              go_wp2_with fail
              refine (CE.out _ _).mono ?_
              rintro e w8 ⟨rfl, hL8⟩
              have HL8 := Lib.hid hL8
              clear hL8 CE
              go_wp2_with fail
              go_ret
              exact Escaped.no HR2.out HL8.out
            · have t3 : decide ((x : Int) < 57344) = false := decide_eq_false (by omega)
              have HR2 := Lib.hid (show escF bs p 34 = (true, q) by rw [hz]; unfold escVal; simp [k1, k3] <;> omega)
              clear hz HR HD
              go_wp2_with fail
              go_ret
              exact Escaped.yes HR2.out HL.out
          · have t2 : decide ((55296 : Int) ≤ (x : Int)) = false := decide_eq_false (by omega)
            have HR2 := Lib.hid (show escF bs p 34 = (true, q) by rw [hz]; unfold escVal; simp [k1, k2] <;> omega)
            clear hz HR HD
            go_wp2_with fail
            go_ret
            exact Escaped.yes HR2.out HL.out
set_option maxHeartbeats 8000000 in
set_option maxRecDepth 20000 in
theorem esc_l120_34 {w0 : Base} {w : World} {S : Nat} {bs : List UInt8} {semi : Bool} {mode : Int} {p : Nat} {E : Int} (h : Live w0 w S bs semi mode p (E + nxErr bs p)) (h0 : 0 ≤ E) (h1 : E ≤ 3000000) (hp : p < bs.length) (hc : bt bs p = 120) :
    Calls Tryf.prog 38 #[.pointer (some ⟨S, 0, none⟩), .int .i32 34] w (Escaped w0 S bs semi mode E (escF bs p 34)) := by
  have hr : escF bs p 34 = escVal 255 (escDig bs 16 2 (p + 1) 0) := by
    unfold escF
    rw [if_pos hp, if_neg (by unfold simple; simp; omega), if_neg (by omega), if_pos hc]
  have HR := Lib.hid hr
  have hx := nx_ascii hp (by omega)
  have z0 := nxErr_clean (bs := bs) (p := p) (by omega) (by omega)
  have hne := nxErr_le (bs := bs) (p := p + 1)
  have c2 := h.ch
  have c3 := h.off
  have C0 := Lib.hid (live_next h (by omega) (by omega))
  rw [hx.2, z0, Int.add_zero] at C0
  rw [hx.1, hc] at c2
  clear h hr hc hx z0
  go_enter Tryf.func38, Tryf.ntmps38
  go_wp2_with fail
  refine C0.out.mono ?_
  rintro e w1 ⟨rfl, hL, _⟩
  have HLs := Lib.hid hL
  clear hL C0 c2 c3 hne
  go_wp2_with fail
  go_loopg [6, 10, 11] 2 (fun g v6 v10 _ wr => ∃ (m q x : Nat), m = g ∧ v6 = .int .i64 m ∧ v10 = .int .u32 x ∧ m ≤ 2 ∧ Hid ((x + 1) * 16 ^ m ≤ 4294967296) ∧ Hid (Live w0 wr S bs semi mode q (E + nxErr bs q)) ∧ Hid (escDig bs 16 2 (p + 1) 0 = escDig bs 16 m q x))
  case atStart => exact ⟨2, p + 1, 0, rfl, rfl, rfl, by omega, Lib.hid (by decide), HLs, Lib.hid rfl⟩
  case round =>
    obtain ⟨m, q, x, rfl, rfl, rfl, hm, HX, HL, HD⟩ := hrel
    have d2 := HL.out.ch
    have d3 := HL.out.off
    have hle := HL.out.le
    have hr := nxCh_range bs q
    have hne := nxErr_le (bs := bs) (p := q)
    cases m with
    | succ m =>
      have hpos : decide ((0 : Int) < ((m + 1 : Nat) : Int)) = true := decide_eq_true (by omega)
      by_cases hd : q < bs.length ∧ dv (bt bs q : Int) < 16
      · have hdn := escDig_next (m := m) (x := x) hd
        have hps := pow_step 16 x m _ HX.out hd.2
        have hasc := dv_ascii (c := (bt bs q : Int)) (by omega)
        have hx := nx_ascii hd.1 (by omega)
        have z0 := nxErr_clean (bs := bs) (p := q) (by omega) (by omega)
        have hne2 := nxErr_le (bs := bs) (p := q + 1)
        have C := Lib.hid (live_next HL.out (by omega) (by omega))
        rw [hx.2, z0, Int.add_zero] at C
        have D := Lib.hid (digitVal_any (nxCh bs q) wr hr.1 hr.2)
        rw [hx.1] at D d2
        have HD2 := Lib.hid (HD.out.trans hdn)
        have HX2 := Lib.hid hps.1
        have hps2 := hps.2
        have hdl := hd.2
        clear hdn hps hx z0 hd hasc hr
        generalize dv (bt bs q : Int) = d at *
        generalize bt bs q = c at *
        have td : decide ((16 : Int) ≤ (d : Int)) = false := decide_eq_false (by omega)
        go_wp2_with (first | (go_at_call 47; refine D.out.mono ?_; rintro e w1 ⟨rfl, rfl⟩))
        refine C.out.mono ?_
        rintro e w2 ⟨rfl, hL2, _⟩
        have HL2 := Lib.hid hL2
        clear hL2 C
        go_wp2_with fail
        go_roundg m
        case measure => omega
        case rel => exact ⟨m, q + 1, x * 16 + d, rfl, by go_num, by go_num, by omega, HX2, HL2, HD2⟩
      · have hdf := escDig_fail (m := m) (x := x) hd
        have HR2 := Lib.hid (show escF bs p 34 = (false, q) by rw [HR.out, HD.out, hdf]; rfl)
        have hdv : ¬ dv (nxCh bs q) < 16 := fun hh => hd ((dv_ch (by omega)).1 hh)
        have hdl := dv_le (nxCh bs q)
        have D := Lib.hid (digitVal_any (nxCh bs q) wr hr.1 hr.2)
        clear hdf hd HR HD
        generalize hgd : dv (nxCh bs q) = d at *
        clear hgd
        have td : decide ((16 : Int) ≤ (d : Int)) = true := decide_eq_true (by omega)
        by_cases hq : nxCh bs q < 0
        · have tq : decide (nxCh bs q < 0) = true := decide_eq_true hq
          generalize nxCh bs q = ch at *
          have hSlt := HL.out.lt
          have CE := Lib.hid (fun (ob : Obj) => live_error (show Live w0 (wr.alloc ob).drew S bs semi mode q (E + nxErr bs q) from (HL.out.later ((Below.refl _ _).alloc (Nat.le_refl _) ob)).draws 1) (by omega) (by omega))
          clear HL
          have FC := fun (args : Array Value) (v : World) => FmtF.call args v
          have FG := fun (nm : String) (v : World) => FmtF.guard nm v
          have FP := FmtF.printed
          have FO := fun (nm : String) (x : Int) (v : World) => FmtF.operand nm x v
          go_wp2_with (first | (go_at_call 47; refine D.out.mono ?_; rintro e w1 ⟨rfl, rfl⟩))
          refine (CE.out _ _ _).mono ?_
          rintro e w8 ⟨rfl, hL8⟩
          have HL8 := Lib.hid hL8
          clear hL8 CE
          go_wp2_with fail
          go_ret
          exact Escaped.no HR2.out HL8.out
        · have tq : decide (nxCh bs q < 0) = false := decide_eq_false hq
          generalize nxCh bs q = ch at *
          have hSlt := HL.out.lt
          have CE := Lib.hid (fun (ob : Obj) => live_error (show Live w0 (wr.alloc ob).drew S bs semi mode q (E + nxErr bs q) from (HL.out.later ((Below.refl _ _).alloc (Nat.le_refl _) ob)).draws 1) (by omega) (by omega))
          clear HL
          have FC := fun (args : Array Value) (v : World) => FmtF.call args v
          have FG := fun (nm : String) (v : World) => FmtF.guard nm v
          have FP := FmtF.printed
          have FO := fun (nm : String) (x : Int) (v : World) => FmtF.operand nm x v
          go_wp2_with (first | (go_at_call 47; refine D.out.mono ?_; rintro e w1 ⟨rfl, rfl⟩))
          refine (CE.out _ _ _).mono ?_
          rintro e w8 ⟨rfl, hL8⟩
          have HL8 := Lib.hid hL8
          clear hL8 CE
          go_wp2_with fail
          go_ret
          exact Escaped.no HR2.out HL8.out
    | zero =>
      have hz := show escF bs p 34 = escVal 255 (true, q, x) by rw [HR.out, HD.out]; rfl
      have hxb : x < 4294967296 := by have := HX.out; simp at this; omega
      by_cases k1 : 255 < x
      · have HR2 := Lib.hid (show escF bs p 34 = (false, q) by rw [hz]; unfold escVal; simp [k1])
        have t1 : decide ((255 : Int) < (x : Int)) = true := decide_eq_true (by omega)
        have CE := Lib.hid (live_error HL.out (by omega) (by omega))
        clear hz HR HD HL
        go_wp2_with fail
        refine (CE.out _ _).mono ?_
        rintro e w8 ⟨rfl, hL8⟩
        have HL8 := Lib.hid hL8
        clear hL8 CE
        go_wp2_with fail
        go_ret
        exact Escaped.no HR2.out HL8.out
      · have t1 : decide ((255 : Int) < (x : Int)) = false := decide_eq_false (by omega)
        by_cases k2 : 55296 ≤ x
        · have t2 : decide ((55296 : Int) ≤ (x : Int)) = true := decide_eq_true (by omega)
          by_cases k3 : x < 57344
          · have t3 : decide ((x : Int) < 57344) = true := decide_eq_true (by omega)
            have HR2 := Lib.hid (show escF bs p 34 = (false, q) by rw [hz]; unfold escVal; simp [k2, k3])
            have CE := Lib.hid (live_error HL.out (by omega) (by omega))
            clear hz HR HD HL
            go_wp2_with fail
            refine (CE.out _ _).mono ?_
            rintro e w8 ⟨rfl, hL8⟩
            have HL8 := Lib.hid hL8
            clear hL8 CE
            go_wp2_with fail
            go_ret
            exact Escaped.no HR2.out HL8.out
          · have t3 : decide ((x : Int) < 57344) = false := decide_eq_false (by omega)
            have HR2 := Lib.hid (show escF bs p 34 = (true, q) by rw [hz]; unfold escVal; simp [k1, k3] <;> omega)
            clear hz HR HD
            go_wp2_with fail
            go_ret
            exact Escaped.yes HR2.out HL.out
        · have t2 : decide ((55296 : Int) ≤ (x : Int)) = false := decide_eq_false (by omega)
          have HR2 := Lib.hid (show escF bs p 34 = (true, q) by rw [hz]; unfold escVal; simp [k1, k2] <;> omega)
          clear hz HR HD
          go_wp2_with fail
          go_ret
          exact Escaped.yes HR2.out HL.out
set_option maxHeartbeats 8000000 in
set_option maxRecDepth 20000 in
theorem esc_l117_34 {w0 : Base} {w : World} {S : Nat} {bs : List UInt8} {semi : Bool} {mode : Int} {p : Nat} {E : Int} (h : Live w0 w S bs semi mode p (E + nxErr bs p)) (h0 : 0 ≤ E) (h1 : E ≤ 3000000) (hp : p < bs.length) (hc : bt bs p = 117) :
    Calls Tryf.prog 38 #[.pointer (some ⟨S, 0, none⟩), .int .i32 34] w (Escaped w0 S bs semi mode E (escF bs p 34)) := by
  have hr : escF bs p 34 = escVal 1114111 (escDig bs 16 4 (p + 1) 0) := by
    unfold escF
    rw [if_pos hp, if_neg (by unfold simple; simp; omega), if_neg (by omega), if_neg (by omega), if_pos hc]
  have HR := Lib.hid hr
  have hx := nx_ascii hp (by omega)
  have z0 := nxErr_clean (bs := bs) (p := p) (by omega) (by omega)
  have hne := nxErr_le (bs := bs) (p := p + 1)
  have c2 := h.ch
  have c3 := h.off
  have C0 := Lib.hid (live_next h (by omega) (by omega))
  rw [hx.2, z0, Int.add_zero] at C0
  rw [hx.1, hc] at c2
  clear h hr hc hx z0
  go_enter Tryf.func38, Tryf.ntmps38
  go_wp2_with fail
  refine C0.out.mono ?_
  rintro e w1 ⟨rfl, hL, _⟩
  have HLs := Lib.hid hL
  clear hL C0 c2 c3 hne
  go_wp2_with fail
  go_loopg [6, 10, 11] 4 (fun g v6 v10 _ wr => ∃ (m q x : Nat), m = g ∧ v6 = .int .i64 m ∧ v10 = .int .u32 x ∧ m ≤ 4 ∧ Hid ((x + 1) * 16 ^ m ≤ 4294967296) ∧ Hid (Live w0 wr S bs semi mode q (E + nxErr bs q)) ∧ Hid (escDig bs 16 4 (p + 1) 0 = escDig bs 16 m q x))
  case atStart => exact ⟨4, p + 1, 0, rfl, rfl, rfl, by omega, Lib.hid (by decide), HLs, Lib.hid rfl⟩
  case round =>
    obtain ⟨m, q, x, rfl, rfl, rfl, hm, HX, HL, HD⟩ := hrel
    have d2 := HL.out.ch
    have d3 := HL.out.off
    have hle := HL.out.le
    have hr := nxCh_range bs q
    have hne := nxErr_le (bs := bs) (p := q)
    cases m with
    | succ m =>
      have hpos : decide ((0 : Int) < ((m + 1 : Nat) : Int)) = true := decide_eq_true (by omega)
      by_cases hd : q < bs.length ∧ dv (bt bs q : Int) < 16
      · have hdn := escDig_next (m := m) (x := x) hd
        have hps := pow_step 16 x m _ HX.out hd.2
        have hasc := dv_ascii (c := (bt bs q : Int)) (by omega)
        have hx := nx_ascii hd.1 (by omega)
        have z0 := nxErr_clean (bs := bs) (p := q) (by omega) (by omega)
        have hne2 := nxErr_le (bs := bs) (p := q + 1)
        have C := Lib.hid (live_next HL.out (by omega) (by omega))
        rw [hx.2, z0, Int.add_zero] at C
        have D := Lib.hid (digitVal_any (nxCh bs q) wr hr.1 hr.2)
        rw [hx.1] at D d2
        have HD2 := Lib.hid (HD.out.trans hdn)
        have HX2 := Lib.hid hps.1
        have hps2 := hps.2
        have hdl := hd.2
        clear hdn hps hx z0 hd hasc hr
        generalize dv (bt bs q : Int) = d at *
        generalize bt bs q = c at *
        have td : decide ((16 : Int) ≤ (d : Int)) = false := decide_eq_false (by omega)
        go_wp2_with (first | (go_at_call 47; refine D.out.mono ?_; rintro e w1 ⟨rfl, rfl⟩))
        refine C.out.mono ?_
        rintro e w2 ⟨rfl, hL2, _⟩
        have HL2 := Lib.hid hL2
        clear hL2 C
        go_wp2_with fail
        go_roundg m
        case measure => omega
        case rel => exact ⟨m, q + 1, x * 16 + d, rfl, by go_num, by go_num, by omega, HX2, HL2, HD2⟩
      · have hdf := escDig_fail (m := m) (x := x) hd
        have HR2 := Lib.hid (show escF bs p 34 = (false, q) by rw [HR.out, HD.out, hdf]; rfl)
        have hdv : ¬ dv (nxCh bs q) < 16 := fun hh => hd ((dv_ch (by omega)).1 hh)
        have hdl := dv_le (nxCh bs q)
        have D := Lib.hid (digitVal_any (nxCh bs q) wr hr.1 hr.2)
        clear hdf hd HR HD
        generalize hgd : dv (nxCh bs q) = d at *
        clear hgd
        have td : decide ((16 : Int) ≤ (d : Int)) = true := decide_eq_true (by omega)
        by_cases hq : nxCh bs q < 0
        · have tq : decide (nxCh bs q < 0) = true := decide_eq_true hq
          generalize nxCh bs q = ch at *
          have hSlt := HL.out.lt
          have CE := Lib.hid (fun (ob : Obj) => live_error (show Live w0 (wr.alloc ob).drew S bs semi mode q (E + nxErr bs q) from (HL.out.later ((Below.refl _ _).alloc (Nat.le_refl _) ob)).draws 1) (by omega) (by omega))
          clear HL
          have FC := fun (args : Array Value) (v : World) => FmtF.call args v
          have FG := fun (nm : String) (v : World) => FmtF.guard nm v
          have FP := FmtF.printed
          have FO := fun (nm : String) (x : Int) (v : World) => FmtF.operand nm x v
          go_wp2_with (first | (go_at_call 47; refine D.out.mono ?_; rintro e w1 ⟨rfl, rfl⟩))
          refine (CE.out _ _ _).mono ?_
          rintro e w8 ⟨rfl, hL8⟩
          have HL8 := Lib.hid hL8
          clear hL8 CE
          go_wp2_with fail
          go_ret
          exact Escaped.no HR2.out HL8.out
        · have tq : decide (nxCh bs q < 0) = false := decide_eq_false hq
          generalize nxCh bs q = ch at *
          have hSlt := HL.out.lt
          have CE := Lib.hid (fun (ob : Obj) => live_error (show Live w0 (wr.alloc ob).drew S bs semi mode q (E + nxErr bs q) from (HL.out.later ((Below.refl _ _).alloc (Nat.le_refl _) ob)).draws 1) (by omega) (by omega))
          clear HL
          have FC := fun (args : Array Value) (v : World) => FmtF.call args v
          have FG := fun (nm : String) (v : World) => FmtF.guard nm v
          have FP := FmtF.printed
          have FO := fun (nm : String) (x : Int) (v : World) => FmtF.operand nm x v
          go_wp2_with (first | (go_at_call 47; refine D.out.mono ?_; rintro e w1 ⟨rfl, rfl⟩))
          refine (CE.out _ _ _).mono ?_
          rintro e w8 ⟨rfl, hL8⟩
          have HL8 := Lib.hid hL8
          clear hL8 CE
          go_wp2_with fail
          go_ret
          exact Escaped.no HR2.out HL8.out
    | zero =>
      have hz := show escF bs p 34 = escVal 1114111 (true, q, x) by rw [HR.out, HD.out]; rfl
      have hxb : x < 4294967296 := by have := HX.out; simp at this; omega
      by_cases k1 : 1114111 < x
      · have HR2 := Lib.hid (show escF bs p 34 = (false, q) by rw [hz]; unfold escVal; simp [k1])
        have t1 : decide ((1114111 : Int) < (x : Int)) = true := decide_eq_true (by omega)
        have CE := Lib.hid (live_error HL.out (by omega) (by omega))
        clear hz HR HD HL
        go_wp2_with fail
        refine (CE.out _ _).mono ?_
        rintro e w8 ⟨rfl, hL8⟩
        have HL8 := Lib.hid hL8
        clear hL8 CE
        go_wp2_with fail
        go_ret
        exact Escaped.no HR2.out HL8.out
      · have t1 : decide ((1114111 : Int) < (x : Int)) = false := decide_eq_false (by omega)
        by_cases k2 : 55296 ≤ x
        · have t2 : decide ((55296 : Int) ≤ (x : Int)) = true := decide_eq_true (by omega)
          by_cases k3 : x < 57344
          · have t3 : decide ((x : Int) < 57344) = true := decide_eq_true (by omega)
            have HR2 := Lib.hid (show escF bs p 34 = (false, q) by rw [hz]; unfold escVal; simp [k2, k3])
            have CE := Lib.hid (live_error HL.out (by omega) (by omega))
            clear hz HR HD HL
            go_wp2_with fail
            refine (CE.out _ _).mono ?_
            rintro e w8 ⟨rfl, hL8⟩
            have HL8 := Lib.hid hL8
            clear hL8 CE
            go_wp2_with fail
            go_ret
            exact Escaped.no HR2.out HL8.out
          · have t3 : decide ((x : Int) < 57344) = false := decide_eq_false (by omega)
            have HR2 := Lib.hid (show escF bs p 34 = (true, q) by rw [hz]; unfold escVal; simp [k1, k3] <;> omega)
            clear hz HR HD
            go_wp2_with fail
            go_ret
            exact Escaped.yes HR2.out HL.out
        · have t2 : decide ((55296 : Int) ≤ (x : Int)) = false := decide_eq_false (by omega)
          have HR2 := Lib.hid (show escF bs p 34 = (true, q) by rw [hz]; unfold escVal; simp [k1, k2] <;> omega)
          clear hz HR HD
          go_wp2_with fail
          go_ret
          exact Escaped.yes HR2.out HL.out
set_option maxHeartbeats 8000000 in
set_option maxRecDepth 20000 in
theorem esc_l85_34 {w0 : Base} {w : World} {S : Nat} {bs : List UInt8} {semi : Bool} {mode : Int} {p : Nat} {E : Int} (h : Live w0 w S bs semi mode p (E + nxErr bs p)) (h0 : 0 ≤ E) (h1 : E ≤ 3000000) (hp : p < bs.length) (hc : bt bs p = 85) :
    Calls Tryf.prog 38 #[.pointer (some ⟨S, 0, none⟩), .int .i32 34] w (Escaped w0 S bs semi mode E (escF bs p 34)) := by
  have hr : escF bs p 34 = escVal 1114111 (escDig bs 16 8 (p + 1) 0) := by
    unfold escF
    rw [if_pos hp, if_neg (by unfold simple; simp; omega), if_neg (by omega), if_neg (by omega), if_neg (by omega), if_pos hc]
  have HR := Lib.hid hr
  have hx := nx_ascii hp (by omega)
  have z0 := nxErr_clean (bs := bs) (p := p) (by omega) (by omega)
  have hne := nxErr_le (bs := bs) (p := p + 1)
  have c2 := h.ch
  have c3 := h.off
  have C0 := Lib.hid (live_next h (by omega) (by omega))
  rw [hx.2, z0, Int.add_zero] at C0
  rw [hx.1, hc] at c2
  clear h hr hc hx z0
  go_enter Tryf.func38, Tryf.ntmps38
  go_wp2_with fail
  refine C0.out.mono ?_
  rintro e w1 ⟨rfl, hL, _⟩
  have HLs := Lib.hid hL
  clear hL C0 c2 c3 hne
  go_wp2_with fail
  go_loopg [6, 10, 11] 8 (fun g v6 v10 _ wr => ∃ (m q x : Nat), m = g ∧ v6 = .int .i64 m ∧ v10 = .int .u32 x ∧ m ≤ 8 ∧ Hid ((x + 1) * 16 ^ m ≤ 4294967296) ∧ Hid (Live w0 wr S bs semi mode q (E + nxErr bs q)) ∧ Hid (escDig bs 16 8 (p + 1) 0 = escDig bs 16 m q x))
  case atStart => exact ⟨8, p + 1, 0, rfl, rfl, rfl, by omega, Lib.hid (by decide), HLs, Lib.hid rfl⟩
  case round =>
    obtain ⟨m, q, x, rfl, rfl, rfl, hm, HX, HL, HD⟩ := hrel
    have d2 := HL.out.ch
    have d3 := HL.out.off
    have hle := HL.out.le
    have hr := nxCh_range bs q
    have hne := nxErr_le (bs := bs) (p := q)
    cases m with
    | succ m =>
      have hpos : decide ((0 : Int) < ((m + 1 : Nat) : Int)) = true := decide_eq_true (by omega)
      by_cases hd : q < bs.length ∧ dv (bt bs q : Int) < 16
      · have hdn := escDig_next (m := m) (x := x) hd
        have hps := pow_step 16 x m _ HX.out hd.2
        have hasc := dv_ascii (c := (bt bs q : Int)) (by omega)
        have hx := nx_ascii hd.1 (by omega)
        have z0 := nxErr_clean (bs := bs) (p := q) (by omega) (by omega)
        have hne2 := nxErr_le (bs := bs) (p := q + 1)
        have C := Lib.hid (live_next HL.out (by omega) (by omega))
        rw [hx.2, z0, Int.add_zero] at C
        have D := Lib.hid (digitVal_any (nxCh bs q) wr hr.1 hr.2)
        rw [hx.1] at D d2
        have HD2 := Lib.hid (HD.out.trans hdn)
        have HX2 := Lib.hid hps.1
        have hps2 := hps.2
        have hdl := hd.2
        clear hdn hps hx z0 hd hasc hr
        generalize dv (bt bs q : Int) = d at *
        generalize bt bs q = c at *
        have td : decide ((16 : Int) ≤ (d : Int)) = false := decide_eq_false (by omega)
        go_wp2_with (first | (go_at_call 47; refine D.out.mono ?_; rintro e w1 ⟨rfl, rfl⟩))
        refine C.out.mono ?_
        rintro e w2 ⟨rfl, hL2, _⟩
        have HL2 := Lib.hid hL2
        clear hL2 C
        go_wp2_with fail
        go_roundg m
        case measure => omega
        case rel => exact ⟨m, q + 1, x * 16 + d, rfl, by go_num, by go_num, by omega, HX2, HL2, HD2⟩
      · have hdf := escDig_fail (m := m) (x := x) hd
        have HR2 := Lib.hid (show escF bs p 34 = (false, q) by rw [HR.out, HD.out, hdf]; rfl)
        have hdv : ¬ dv (nxCh bs q) < 16 := fun hh => hd ((dv_ch (by omega)).1 hh)
        have hdl := dv_le (nxCh bs q)
        have D := Lib.hid (digitVal_any (nxCh bs q) wr hr.1 hr.2)
        clear hdf hd HR HD
        generalize hgd : dv (nxCh bs q) = d at *
        clear hgd
        have td : decide ((16 : Int) ≤ (d : Int)) = true := decide_eq_true (by omega)
        by_cases hq : nxCh bs q < 0
        · have tq : decide (nxCh bs q < 0) = true := decide_eq_true hq
          generalize nxCh bs q = ch at *
          have hSlt := HL.out.lt
          have CE := Lib.hid (fun (ob : Obj) => live_error (show Live w0 (wr.alloc ob).drew S bs semi mode q (E + nxErr bs q) from (HL.out.later ((Below.refl _ _).alloc (Nat.le_refl _) ob)).draws 1) (by omega) (by omega))
          clear HL
          have FC := fun (args : Array Value) (v : World) => FmtF.call args v
          have FG := fun (nm : String) (v : World) => FmtF.guard nm v
          have FP := FmtF.printed
          have FO := fun (nm : String) (x : Int) (v : World) => FmtF.operand nm x v
          go_wp2_with (first | (go_at_call 47; refine D.out.mono ?_; rintro e w1 ⟨rfl, rfl⟩))
          refine (CE.out _ _ _).mono ?_
          rintro e w8 ⟨rfl, hL8⟩
          have HL8 := Lib.hid hL8
          clear hL8 CE
          go_wp2_with fail
          go_ret
          exact Escaped.no HR2.out HL8.out
        · have tq : decide (nxCh bs q < 0) = false := decide_eq_false hq
          generalize nxCh bs q = ch at *
          have hSlt := HL.out.lt
          have CE := Lib.hid (fun (ob : Obj) => live_error (show Live w0 (wr.alloc ob).drew S bs semi mode q (E + nxErr bs q) from (HL.out.later ((Below.refl _ _).alloc (Nat.le_refl _) ob)).draws 1) (by omega) (by omega))
          clear HL
          have FC := fun (args : Array Value) (v : World) => FmtF.call args v
          have FG := fun (nm : String) (v : World) => FmtF.guard nm v
          have FP := FmtF.printed
          have FO := fun (nm : String) (x : Int) (v : World) => FmtF.operand nm x v
          go_wp2_with (first | (go_at_call 47; refine D.out.mono ?_; rintro e w1 ⟨rfl, rfl⟩))
          refine (CE.out _ _ _).mono ?_
          rintro e w8 ⟨rfl, hL8⟩
          have HL8 := Lib.hid hL8
          clear hL8 CE
          go_wp2_with fail
          go_ret
          exact Escaped.no HR2.out HL8.out
    | zero =>
      have hz := show escF bs p 34 = escVal 1114111 (true, q, x) by rw [HR.out, HD.out]; rfl
      have hxb : x < 4294967296 := by have := HX.out; simp at this; omega
      by_cases k1 : 1114111 < x
      · have HR2 := Lib.hid (show escF bs p 34 = (false, q) by rw [hz]; unfold escVal; simp [k1])
        have t1 : decide ((1114111 : Int) < (x : Int)) = true := decide_eq_true (by omega)
        have CE := Lib.hid (live_error HL.out (by omega) (by omega))
        clear hz HR HD HL
        go_wp2_with fail
        refine (CE.out _ _).mono ?_
        rintro e w8 ⟨rfl, hL8⟩
        have HL8 := Lib.hid hL8
        clear hL8 CE
        go_wp2_with fail
        go_ret
        exact Escaped.no HR2.out HL8.out
      · have t1 : decide ((1114111 : Int) < (x : Int)) = false := decide_eq_false (by omega)
        by_cases k2 : 55296 ≤ x
        · have t2 : decide ((55296 : Int) ≤ (x : Int)) = true := decide_eq_true (by omega)
          by_cases k3 : x < 57344
          · have t3 : decide ((x : Int) < 57344) = true := decide_eq_true (by omega)
            have HR2 := Lib.hid (show escF bs p 34 = (false, q) by rw [hz]; unfold escVal; simp [k2, k3])
            have CE := Lib.hid (live_error HL.out (by omega) (by omega))
            clear hz HR HD HL
            go_wp2_with fail
            refine (CE.out _ _).mono ?_
            rintro e w8 ⟨rfl, hL8⟩
            have HL8 := Lib.hid hL8
            clear hL8 CE
            go_wp2_with fail
            go_ret
            exact Escaped.no HR2.out HL8.out
          · have t3 : decide ((x : Int) < 57344) = false := decide_eq_false (by omega)
            have HR2 := Lib.hid (show escF bs p 34 = (true, q) by rw [hz]; unfold escVal; simp [k1, k3] <;> omega)
            clear hz HR HD
            go_wp2_with fail
            go_ret
            exact Escaped.yes HR2.out HL.out
        · have t2 : decide ((55296 : Int) ≤ (x : Int)) = false := decide_eq_false (by omega)
          have HR2 := Lib.hid (show escF bs p 34 = (true, q) by rw [hz]; unfold escVal; simp [k1, k2] <;> omega)
          clear hz HR HD
          go_wp2_with fail
          go_ret
          exact Escaped.yes HR2.out HL.out
set_option maxHeartbeats 8000000 in
set_option maxRecDepth 20000 in
theorem esc_def34 {w0 : Base} {w : World} {S : Nat} {bs : List UInt8} {semi : Bool} {mode : Int} {p : Nat} {E : Int} (h : Live w0 w S bs semi mode p (E + nxErr bs p)) (h0 : 0 ≤ E) (h1 : E ≤ 3000000) (hr : escF bs p 34 = (false, p)) (hn : ∀ c : Nat, (simple c 34 = true ∨ (48 ≤ c ∧ c ≤ 55) ∨ c = 120 ∨ c = 117 ∨ c = 85) → ¬ (p < bs.length ∧ bt bs p = c)) :
    Calls Tryf.prog 38 #[.pointer (some ⟨S, 0, none⟩), .int .i32 34] w (Escaped w0 S bs semi mode E (escF bs p 34)) := by
  have HR := Lib.hid hr
  have c2 := h.ch
  have c3 := h.off
  have hne := nxErr_le (bs := bs) (p := p)
  have CE := Lib.hid (live_error h (by omega) (by omega))
  have t97 : (nxCh bs p == 97) = false := ch_ne0 (c := 97) (by omega) (hn 97 (by simp [simple]))
  have t98 : (nxCh bs p == 98) = false := ch_ne0 (c := 98) (by omega) (hn 98 (by simp [simple]))
  have t102 : (nxCh bs p == 102) = false := ch_ne0 (c := 102) (by omega) (hn 102 (by simp [simple]))
  have t110 : (nxCh bs p == 110) = false := ch_ne0 (c := 110) (by omega) (hn 110 (by simp [simple]))
  have t114 : (nxCh bs p == 114) = false := ch_ne0 (c := 114) (by omega) (hn 114 (by simp [simple]))
  have t116 : (nxCh bs p == 116) = false := ch_ne0 (c := 116) (by omega) (hn 116 (by simp [simple]))
  have t118 : (nxCh bs p == 118) = false := ch_ne0 (c := 118) (by omega) (hn 118 (by simp [simple]))
  have t92 : (nxCh bs p == 92) = false := ch_ne0 (c := 92) (by omega) (hn 92 (by simp [simple]))
  have t34 : (nxCh bs p == 34) = false := ch_ne0 (c := 34) (by omega) (hn 34 (by simp [simple]))
  have t48 : (nxCh bs p == 48) = false := ch_ne0 (c := 48) (by omega) (hn 48 (by simp [simple]))
  have t49 : (nxCh bs p == 49) = false := ch_ne0 (c := 49) (by omega) (hn 49 (by simp [simple]))
  have t50 : (nxCh bs p == 50) = false := ch_ne0 (c := 50) (by omega) (hn 50 (by simp [simple]))
  have t51 : (nxCh bs p == 51) = false := ch_ne0 (c := 51) (by omega) (hn 51 (by simp [simple]))
  have t52 : (nxCh bs p == 52) = false := ch_ne0 (c := 52) (by omega) (hn 52 (by simp [simple]))
  have t53 : (nxCh bs p == 53) = false := ch_ne0 (c := 53) (by omega) (hn 53 (by simp [simple]))
  have t54 : (nxCh bs p == 54) = false := ch_ne0 (c := 54) (by omega) (hn 54 (by simp [simple]))
  have t55 : (nxCh bs p == 55) = false := ch_ne0 (c := 55) (by omega) (hn 55 (by simp [simple]))
  have t120 : (nxCh bs p == 120) = false := ch_ne0 (c := 120) (by omega) (hn 120 (by simp [simple]))
  have t117 : (nxCh bs p == 117) = false := ch_ne0 (c := 117) (by omega) (hn 117 (by simp [simple]))
  have t85 : (nxCh bs p == 85) = false := ch_ne0 (c := 85) (by omega) (hn 85 (by simp [simple]))
  clear h hr hn
  by_cases hq : nxCh bs p < 0
  all_goals
    first
      | have tq : decide (nxCh bs p < 0) = true := decide_eq_true hq
      | have tq : decide (nxCh bs p < 0) = false := decide_eq_false hq
    generalize nxCh bs p = ch at *
    go_enter Tryf.func38, Tryf.ntmps38
    go_wp2_with fail
    refine (CE.out _ _).mono ?_
    rintro e w8 ⟨rfl, hL8⟩
    have HL8 := Lib.hid hL8
    clear hL8 CE
    go_wp2_with fail
    go_ret
    exact Escaped.no HR.out HL8.out
set_option maxHeartbeats 8000000 in
set_option maxRecDepth 20000 in
theorem escape_34 {w0 : Base} {w : World} {S : Nat} {bs : List UInt8} {semi : Bool} {mode : Int} {p : Nat} {E : Int} (h : Live w0 w S bs semi mode p (E + nxErr bs p)) (h0 : 0 ≤ E) (h1 : E ≤ 3000000)  :
    Calls Tryf.prog 38 #[.pointer (some ⟨S, 0, none⟩), .int .i32 34] w (Escaped w0 S bs semi mode E (escF bs p 34)) := by
  by_cases hp : p < bs.length
  · by_cases k1 : simple (bt bs p) 34 = true
    · exact esc_simple34 h h0 h1 hp k1
    by_cases k2 : 48 ≤ bt bs p ∧ bt bs p ≤ 55
    · exact esc_oct34 h h0 h1 hp k2
    by_cases k3 : bt bs p = 120
    · exact esc_l120_34 h h0 h1 hp k3
    by_cases k4 : bt bs p = 117
    · exact esc_l117_34 h h0 h1 hp k4
    by_cases k5 : bt bs p = 85
    · exact esc_l85_34 h h0 h1 hp k5
    refine esc_def34 h h0 h1 (by unfold escF; rw [if_pos hp, if_neg k1, if_neg k2, if_neg k3, if_neg k4, if_neg k5]) ?_
    rintro c hc ⟨_, rfl⟩
    rcases hc with hc | hc | hc | hc | hc
    · exact k1 hc
    · exact k2 hc
    · exact k3 hc
    · exact k4 hc
    · exact k5 hc
  · exact esc_def34 h h0 h1 (by unfold escF; rw [if_neg hp]) (fun c _ hh => hp hh.1)
end Go.Proofs.YtpdfompeoceklaaFmt.Core
