/-
  Proved: the walk of FnScanCommentErrsOnlyWhenUnterminated returns true at every argument.
  Conditions: the library's UTF-8 tables hold what the row lists.
-/
import Derived.Test.YtjikoccbgekfmaaFmtComm
import Derived.Test.YtjikoccbgekfmaaFmtMake140
import Derived.Test.YtjikoccbgekfmaaFmtClone140
import Derived.Test.YtjikoccbgekfmaaFmtTabs
namespace Go.Proofs.YtjikoccbgekfmaaFmt.CommLaw
open Go.ChangeShapes Go.WideShapes Go.ChangeAt Go.RowKit Core
set_option linter.unusedVariables false

theorem bytes_yes (a : Option Addr) (len cap : Nat) (w : World) (h : len ≤ 1048576) : Calls Tryf.prog 13 #[.slice a len cap] w fun e w' => e = .returned (.bool true) ∧ w = w' := by
  go_enter Tryf.func13, Tryf.ntmps13
  go_wp2_with fail
  go_ret
  exact ⟨rfl, rfl⟩
theorem bytes_no (a : Option Addr) (len cap : Nat) (w : World) (h : ¬ len ≤ 1048576) : Calls Tryf.prog 13 #[.slice a len cap] w fun e w' => e = .returned (.bool false) ∧ w = w' := by
  go_enter Tryf.func13, Tryf.ntmps13
  go_wp2_with fail
  go_ret
  exact ⟨rfl, rfl⟩
theorem count_any (S : Nat) (p : Int) (w : World) (h : w.cell? ⟨S, 8, none⟩ = some (.int .i64 p)) : Calls Tryf.prog 12 #[.pointer (some ⟨S, 0, none⟩)] w fun e w' => e = .returned (.int .i64 p) ∧ w = w' := by
  go_enter Tryf.func12, Tryf.ntmps12
  go_wp2_with fail
  go_ret
  exact ⟨rfl, rfl⟩
theorem next_door {w0 : Base} {w : World} {S : Nat} {bs : List UInt8} {semi : Bool} {mode : Int} {p : Nat} {errs : Int} (h : Live w0 w S bs semi mode p errs) (hc : Core.Clean bs) (hp : p < bs.length) (h0 : 0 ≤ errs) (h1 : errs < 4611686018427387904) :
    Calls Tryf.prog 14 #[.pointer (some ⟨S, 0, none⟩)] w fun e w' => e = .returned (.tuple #[]) ∧ Live w0 w' S bs semi mode (p + 1) errs := by
  have C := Lib.hid (clean_next h hc hp h0 h1)
  clear h hc
  go_enter Tryf.func14, Tryf.ntmps14
  go_wp2_with fail
  refine C.out.mono ?_
  rintro e w1 ⟨rfl, h⟩
  go_wp2_with fail
  go_end0
  exact ⟨rfl, h⟩
theorem comm_line {w0 : Base} {w : World} {S : Nat} {bs : List UInt8} {semi : Bool} {mode : Int} {E : Int} (h : Live w0 w S bs semi mode 1 E) (hc : Core.Clean bs) (h0 : 0 ≤ E) (h1 : E ≤ 1000000) (hl : 2 ≤ bs.length) (hb : bt bs 1 = 47) :
    Calls Tryf.prog 15 #[.pointer (some ⟨S, 0, none⟩)] w (Commented w0 S bs semi mode E) := by
  have C := Lib.hid (line_any h hc h0 h1 hl hb)
  clear h hc
  go_enter Tryf.func15, Tryf.ntmps15
  go_wp2_with fail
  refine C.out.mono ?_
  rintro e w1 ⟨str, q, rfl, h⟩
  have H := Lib.hid h
  clear h C
  go_wp2_with fail
  go_ret
  exact ⟨str, q, rfl, H.out⟩
theorem comm_block {w0 : Base} {w : World} {S : Nat} {bs : List UInt8} {semi : Bool} {mode : Int} {E er : Int} (h : Live w0 w S bs semi mode 1 E) (hc : Core.Clean bs) (h0 : 0 ≤ E) (h1 : E ≤ 1000000) (hl : 2 ≤ bs.length) (hb : bt bs 1 = 42)
    (hY : closedF bs 2 = true → er = E) (hNo : closedF bs 2 = false → er = E + 1) :
    Calls Tryf.prog 15 #[.pointer (some ⟨S, 0, none⟩)] w (Commented w0 S bs semi mode er) := by
  have C := Lib.hid (block_any h hc h0 h1 hl hb hY hNo)
  clear h hc hY hNo
  go_enter Tryf.func15, Tryf.ntmps15
  go_wp2_with fail
  refine C.out.mono ?_
  rintro e w1 ⟨str, q, rfl, h⟩
  have H := Lib.hid h
  clear h C
  go_wp2_with fail
  go_ret
  exact ⟨str, q, rfl, H.out⟩
set_option maxHeartbeats 8000000 in
set_option maxRecDepth 20000 in
theorem walk_line (b o cap : Nat) (bs : List UInt8) (w : World) (hs : Src w (some ⟨b, o, none⟩) cap bs) (hn : bs.length ≤ 65536) (hT : Tabs w) (hl2 : 2 ≤ bs.length) (hb0 : bt bs 0 = 47) (hb1 : bt bs 1 = 47) :
    Calls Tryf.prog 4 #[.slice (some ⟨b, o, none⟩) bs.length cap] w fun e w' => e = .returned (.bool true) ∧ Below w.heap.size w w' := by
  have hbc : ∀ j, j < bs.length → w.cell? ⟨b, o + j, none⟩ = some (.int .u8 (bt bs j)) := by
    obtain ⟨b', o', e, hc⟩ := hs.2.2 (by omega)
    injection e with e
    injection e with e1 e2 e3
    subst e1 e2
    exact hc
  have c0 := hbc 0 (by omega)
  have c1 := hbc 1 (by omega)
  rw [Nat.add_zero] at c0
  have HC := Lib.hid hbc
  have HS := Lib.hid hs
  have HT := Lib.hid hT
  have CL := Lib.hid (P140.clone_any (some ⟨b, o, none⟩) cap bs w hs (fun h => by cases h) (by omega))
  have t0 : (((bt bs 0 : Nat) : Int) != 47) = false := by simp; omega
  have u0 : (((bt bs 1 : Nat) : Int) != 47) = false := by simp; omega
  have u2 : (((bt bs 1 : Nat) : Int) == 42) = false := by rw [beq_eq_false_iff_ne]; omega
  have i0 : (0 : Int) < (bs.length : Int) := by omega
  have i1 : (1 : Int) < (bs.length : Int) := by omega
  have l1 : decide ((65536 : Int) < (bs.length : Int)) = false := decide_eq_false (by omega)
  have l2 : decide ((bs.length : Int) < 2) = false := decide_eq_false (by omega)
  clear hs hT hbc
  go_enter Tryf.func4, Tryf.ntmps4
  go_wp2_with (first | (go_at_call 13; refine (bytes_yes (some ⟨b, o, none⟩) bs.length cap w (by omega)).mono ?_; rintro e w1 ⟨rfl, rfl⟩))
  clear c0 c1 t0 l1 l2
  go_loop [4] (fun v => ∃ i : Nat, i ≤ bs.length ∧ v = .int .i64 i ∧ Hid (∀ j, j < i → 0 < bt bs j ∧ bt bs j < 128)) (fun v => bs.length - (intOf v).toNat)
  case atStart => exact ⟨0, by omega, rfl, Lib.hid (fun j hj => absurd hj (by omega))⟩
  case round =>
    obtain ⟨i, hi, rfl, HI⟩ := hrel
    by_cases hlt : i < bs.length
    · have hlt' : (i : Int) < (bs.length : Int) := by omega
      have ci := HC.out i hlt
      by_cases k0 : bt bs i = 0
      · have z0 : (((bt bs i : Nat) : Int) == 0) = true := by rw [beq_iff_eq]; omega
        clear k0
        generalize bt bs i = c at *
        go_wp2_with fail
        go_ret
        exact ⟨rfl, Below.refl _ _⟩
      · have z0 : (((bt bs i : Nat) : Int) == 0) = false := by rw [beq_eq_false_iff_ne]; omega
        by_cases k1 : bt bs i < 128
        · have z1 : decide ((128 : Int) ≤ ((bt bs i : Nat) : Int)) = false := decide_eq_false (by omega)
          have HI2 := Lib.hid (show ∀ j, j < i + 1 → 0 < bt bs j ∧ bt bs j < 128 from fun j hj => by
            by_cases e : j = i
            · subst e; omega
            · exact HI.out j (by omega))
          clear k0 k1
          generalize bt bs i = c at *
          go_wp2_with fail
          go_round
          case rel => exact ⟨i + 1, by omega, by go_num, HI2⟩
          case measure => simp [intOf]; omega
        · have z1 : decide ((128 : Int) ≤ ((bt bs i : Nat) : Int)) = true := decide_eq_true (by omega)
          clear k0 k1
          generalize bt bs i = c at *
          go_wp2_with fail
          go_ret
          exact ⟨rfl, Below.refl _ _⟩
    · have hlt' : ¬ (i : Int) < (bs.length : Int) := by omega
      have hie : i = bs.length := by omega
      subst hie
      have HCl : Hid (Core.Clean bs) := HI
      clear HI
      go_wp2_with fail
      refine CL.out.mono ?_
      rintro e w1 ⟨A, cap1, rfl, hs1, ho1, hA1, hN1⟩
      obtain ⟨b1, o1, rfl, hc1⟩ := hs1.2.2 (by omega)
      have d1 := hc1 1 (by omega)
      have HC1 := Lib.hid hc1
      have S1 := Lib.hid hs1
      have O1 := Lib.hid ho1
      have T1 := Lib.hid (HT.out.only ho1)
      clear hs1 ho1 hA1 hN1 hc1 CL HS
      go_wp2_with fail
      refine (P140.made_any (some ⟨b1, o1, none⟩) cap1 bs (fun _ => True) (fun _ _ => trivial) w1 S1.out (by omega) T1.out).mono ?_
      rintro e w2 ⟨S, rfl, hL⟩
      rw [bom_ascii (HCl.out 0 (by omega)).2, HCl.out.err] at hL
      have C2 := Lib.hid (next_door hL HCl.out (by omega) (by omega) (by omega))
      clear hL
      go_wp2_with fail
      refine C2.out.mono ?_
      rintro e w3 ⟨rfl, hL3⟩
      rw [Nat.zero_add] at hL3
      have x8 := hL3.errsC
      have C3 := Lib.hid (comm_line hL3 HCl.out (by omega) (by omega) hl2 hb1)
      clear hL3 C2
      go_wp2_with (first | (go_at_call 12; refine (count_any S _ w3 x8).mono ?_; rintro e w4 ⟨rfl, rfl⟩))
      refine C3.out.mono ?_
      rintro e w5 ⟨str, q5, rfl, hL5⟩
      have y8 := hL5.errsC
      have BB := Lib.hid ((O1.out.next hL5.only (by simp)).below (Nat.le_refl _) (by simp))
      clear hL5 C3 x8
      go_wp2_with (first | (go_at_call 12; refine (count_any S _ w5 y8).mono ?_; rintro e w6 ⟨rfl, rfl⟩))
      go_ret
      exact ⟨by first | rfl | (simp; done), BB.out⟩
set_option maxHeartbeats 8000000 in
set_option maxRecDepth 20000 in
theorem walk_block (b o cap : Nat) (bs : List UInt8) (w : World) (hs : Src w (some ⟨b, o, none⟩) cap bs) (hn : bs.length ≤ 65536) (hT : Tabs w) (hl2 : 2 ≤ bs.length) (hb0 : bt bs 0 = 47) (hb1 : bt bs 1 = 42) :
    Calls Tryf.prog 4 #[.slice (some ⟨b, o, none⟩) bs.length cap] w fun e w' => e = .returned (.bool true) ∧ Below w.heap.size w w' := by
  have hbc : ∀ j, j < bs.length → w.cell? ⟨b, o + j, none⟩ = some (.int .u8 (bt bs j)) := by
    obtain ⟨b', o', e, hc⟩ := hs.2.2 (by omega)
    injection e with e
    injection e with e1 e2 e3
    subst e1 e2
    exact hc
  have c0 := hbc 0 (by omega)
  have c1 := hbc 1 (by omega)
  rw [Nat.add_zero] at c0
  have HC := Lib.hid hbc
  have HS := Lib.hid hs
  have HT := Lib.hid hT
  have CL := Lib.hid (P140.clone_any (some ⟨b, o, none⟩) cap bs w hs (fun h => by cases h) (by omega))
  have t0 : (((bt bs 0 : Nat) : Int) != 47) = false := by simp; omega
  have u0 : (((bt bs 1 : Nat) : Int) != 47) = true := by simp; omega
  have u1 : (((bt bs 1 : Nat) : Int) != 42) = false := by simp; omega
  have u2 : (((bt bs 1 : Nat) : Int) == 42) = true := by rw [beq_iff_eq]; omega
  have i0 : (0 : Int) < (bs.length : Int) := by omega
  have i1 : (1 : Int) < (bs.length : Int) := by omega
  have l1 : decide ((65536 : Int) < (bs.length : Int)) = false := decide_eq_false (by omega)
  have l2 : decide ((bs.length : Int) < 2) = false := decide_eq_false (by omega)
  clear hs hT hbc
  go_enter Tryf.func4, Tryf.ntmps4
  go_wp2_with (first | (go_at_call 13; refine (bytes_yes (some ⟨b, o, none⟩) bs.length cap w (by omega)).mono ?_; rintro e w1 ⟨rfl, rfl⟩))
  clear c0 c1 t0 l1 l2
  go_loop [4] (fun v => ∃ i : Nat, i ≤ bs.length ∧ v = .int .i64 i ∧ Hid (∀ j, j < i → 0 < bt bs j ∧ bt bs j < 128)) (fun v => bs.length - (intOf v).toNat)
  case atStart => exact ⟨0, by omega, rfl, Lib.hid (fun j hj => absurd hj (by omega))⟩
  case round =>
    obtain ⟨i, hi, rfl, HI⟩ := hrel
    by_cases hlt : i < bs.length
    · have hlt' : (i : Int) < (bs.length : Int) := by omega
      have ci := HC.out i hlt
      by_cases k0 : bt bs i = 0
      · have z0 : (((bt bs i : Nat) : Int) == 0) = true := by rw [beq_iff_eq]; omega
        clear k0
        generalize bt bs i = c at *
        go_wp2_with fail
        go_ret
        exact ⟨rfl, Below.refl _ _⟩
      · have z0 : (((bt bs i : Nat) : Int) == 0) = false := by rw [beq_eq_false_iff_ne]; omega
        by_cases k1 : bt bs i < 128
        · have z1 : decide ((128 : Int) ≤ ((bt bs i : Nat) : Int)) = false := decide_eq_false (by omega)
          have HI2 := Lib.hid (show ∀ j, j < i + 1 → 0 < bt bs j ∧ bt bs j < 128 from fun j hj => by
            by_cases e : j = i
            · subst e; omega
            · exact HI.out j (by omega))
          clear k0 k1
          generalize bt bs i = c at *
          go_wp2_with fail
          go_round
          case rel => exact ⟨i + 1, by omega, by go_num, HI2⟩
          case measure => simp [intOf]; omega
        · have z1 : decide ((128 : Int) ≤ ((bt bs i : Nat) : Int)) = true := decide_eq_true (by omega)
          clear k0 k1
          generalize bt bs i = c at *
          go_wp2_with fail
          go_ret
          exact ⟨rfl, Below.refl _ _⟩
    · have hlt' : ¬ (i : Int) < (bs.length : Int) := by omega
      have hie : i = bs.length := by omega
      subst hie
      have HCl : Hid (Core.Clean bs) := HI
      clear HI
      go_wp2_with fail
      refine CL.out.mono ?_
      rintro e w1 ⟨A, cap1, rfl, hs1, ho1, hA1, hN1⟩
      obtain ⟨b1, o1, rfl, hc1⟩ := hs1.2.2 (by omega)
      have d1 := hc1 1 (by omega)
      have HC1 := Lib.hid hc1
      have S1 := Lib.hid hs1
      have O1 := Lib.hid ho1
      have T1 := Lib.hid (HT.out.only ho1)
      clear hs1 ho1 hA1 hN1 hc1 CL HS
      go_wp2_with fail
      go_loop [6, 7] (fun vc vi => ∃ k : Nat, 2 ≤ k ∧ k ≤ bs.length ∧ vi = .int .i64 k ∧ vc = .bool false ∧ Hid (closedF bs k = closedF bs 2)) (fun _ vi => bs.length - (intOf vi).toNat)
      case atStart => exact ⟨2, by omega, by omega, rfl, rfl, Lib.hid rfl⟩
      case round =>
        obtain ⟨k, hk2, hk, rfl, rfl, HK⟩ := hrel
        by_cases hlt : k + 1 < bs.length
        · have hlt' : (k : Int) + 1 < (bs.length : Int) := by omega
          have hlt2 : (k : Int) < (bs.length : Int) := by omega
          have ck := HC1.out k (by omega)
          have ck1 := HC1.out (k + 1) hlt
          by_cases k42 : bt bs k = 42
          · have t42 : (((bt bs k : Nat) : Int) == 42) = true := by rw [beq_iff_eq]; omega
            by_cases k47 : bt bs (k + 1) = 47
            · have t47 : (((bt bs (k + 1) : Nat) : Int) == 47) = true := by rw [beq_iff_eq]; omega
              have HE := Lib.hid ((HK.out).symm.trans (closedF_yes hlt k42 k47))
              clear k42 k47
              generalize bt bs k = ck0 at *
              generalize bt bs (k + 1) = ck2 at *
              go_wp2_with fail
              refine (P140.made_any (some ⟨b1, o1, none⟩) cap1 bs (fun _ => True) (fun _ _ => trivial) w1 S1.out (by omega) T1.out).mono ?_
              rintro e w2 ⟨S, rfl, hL⟩
              rw [bom_ascii (HCl.out 0 (by omega)).2, HCl.out.err] at hL
              have C2 := Lib.hid (next_door hL HCl.out (by omega) (by omega) (by omega))
              clear hL
              go_wp2_with fail
              refine C2.out.mono ?_
              rintro e w3 ⟨rfl, hL3⟩
              rw [Nat.zero_add] at hL3
              have x8 := hL3.errsC
              have C3 := Lib.hid (comm_block (er := 0) hL3 HCl.out (by omega) (by omega) hl2 hb1 (fun _ => rfl) (fun hh => by rw [HE.out] at hh; cases hh))
              clear hL3 C2
              go_wp2_with (first | (go_at_call 12; refine (count_any S _ w3 x8).mono ?_; rintro e w4 ⟨rfl, rfl⟩))
              refine C3.out.mono ?_
              rintro e w5 ⟨str, q5, rfl, hL5⟩
              have y8 := hL5.errsC
              have BB := Lib.hid ((O1.out.next hL5.only (by simp)).below (Nat.le_refl _) (by simp))
              clear hL5 C3 x8
              go_wp2_with (first | (go_at_call 12; refine (count_any S _ w5 y8).mono ?_; rintro e w6 ⟨rfl, rfl⟩))
              go_ret
              exact ⟨by first | rfl | (simp; done), BB.out⟩
            · have t47 : (((bt bs (k + 1) : Nat) : Int) == 47) = false := by rw [beq_eq_false_iff_ne]; omega
              have HE := Lib.hid ((closedF_no (bs := bs) (i := k) (fun hh => k47 hh.2.2)).symm.trans HK.out)
              clear k42 k47
              generalize bt bs k = ck0 at *
              generalize bt bs (k + 1) = ck2 at *
              go_wp2_with fail
              go_round
              case rel => exact ⟨k + 1, by omega, by omega, by go_num, rfl, HE⟩
              case measure => simp [intOf]; omega
          · have t42 : (((bt bs k : Nat) : Int) == 42) = false := by rw [beq_eq_false_iff_ne]; omega
            have HE := Lib.hid ((closedF_no (bs := bs) (i := k) (fun hh => k42 hh.2.1)).symm.trans HK.out)
            clear k42
            generalize bt bs k = ck0 at *
            generalize bt bs (k + 1) = ck2 at *
            go_wp2_with fail
            go_round
            case rel => exact ⟨k + 1, by omega, by omega, by go_num, rfl, HE⟩
            case measure => simp [intOf]; omega
        · have hlt' : ¬ (k : Int) + 1 < (bs.length : Int) := by omega
          have HE := Lib.hid ((HK.out).symm.trans (closedF_end (by omega)))
          go_wp2_with fail
          refine (P140.made_any (some ⟨b1, o1, none⟩) cap1 bs (fun _ => True) (fun _ _ => trivial) w1 S1.out (by omega) T1.out).mono ?_
          rintro e w2 ⟨S, rfl, hL⟩
          rw [bom_ascii (HCl.out 0 (by omega)).2, HCl.out.err] at hL
          have C2 := Lib.hid (next_door hL HCl.out (by omega) (by omega) (by omega))
          clear hL
          go_wp2_with fail
          refine C2.out.mono ?_
          rintro e w3 ⟨rfl, hL3⟩
          rw [Nat.zero_add] at hL3
          have x8 := hL3.errsC
          have C3 := Lib.hid (comm_block (er := 1) hL3 HCl.out (by omega) (by omega) hl2 hb1 (fun hh => by rw [HE.out] at hh; cases hh) (fun _ => rfl))
          clear hL3 C2
          go_wp2_with (first | (go_at_call 12; refine (count_any S _ w3 x8).mono ?_; rintro e w4 ⟨rfl, rfl⟩))
          refine C3.out.mono ?_
          rintro e w5 ⟨str, q5, rfl, hL5⟩
          have y8 := hL5.errsC
          have BB := Lib.hid ((O1.out.next hL5.only (by simp)).below (Nat.le_refl _) (by simp))
          clear hL5 C3 x8
          go_wp2_with (first | (go_at_call 12; refine (count_any S _ w5 y8).mono ?_; rintro e w6 ⟨rfl, rfl⟩))
          go_ret
          exact ⟨by first | rfl | (simp; done), BB.out⟩
set_option maxHeartbeats 4000000 in
theorem walk0 (a : Option Addr) (cap : Nat) (bs : List UInt8) (w : World) (hs : Src w a cap bs) (hlen : bs.length ≤ 9223372036854775807) (hT : Tabs w) :
    Calls Tryf.prog 4 #[.slice a bs.length cap] w fun e w' => e = .returned (.bool true) ∧ Below w.heap.size w w' := by
  by_cases h20 : ¬ bs.length ≤ 1048576
  · clear hs hT
    go_enter Tryf.func4, Tryf.ntmps4
    go_wp2_with (first | (go_at_call 13; refine (bytes_no a bs.length cap w h20).mono ?_; rintro e w1 ⟨rfl, rfl⟩))
    go_ret
    exact ⟨rfl, Below.refl _ _⟩
  replace h20 := Classical.not_not.1 h20
  by_cases h16 : ¬ bs.length ≤ 65536
  · clear hs hT
    go_enter Tryf.func4, Tryf.ntmps4
    go_wp2_with (first | (go_at_call 13; refine (bytes_yes a bs.length cap w h20).mono ?_; rintro e w1 ⟨rfl, rfl⟩))
    go_ret
    exact ⟨rfl, Below.refl _ _⟩
  replace h16 := Classical.not_not.1 h16
  by_cases h2 : ¬ 2 ≤ bs.length
  · have l2 : decide ((bs.length : Int) < 2) = true := decide_eq_true (by omega)
    clear hs hT
    go_enter Tryf.func4, Tryf.ntmps4
    go_wp2_with (first | (go_at_call 13; refine (bytes_yes a bs.length cap w h20).mono ?_; rintro e w1 ⟨rfl, rfl⟩))
    go_ret
    exact ⟨rfl, Below.refl _ _⟩
  replace h2 := Classical.not_not.1 h2
  obtain ⟨b, o, rfl, hc⟩ := hs.2.2 (by omega)
  have c0 := hc 0 (by omega)
  have c1 := hc 1 (by omega)
  rw [Nat.add_zero] at c0
  have l2 : decide ((bs.length : Int) < 2) = false := decide_eq_false (by omega)
  have i0 : (0 : Int) < (bs.length : Int) := by omega
  have i1 : (1 : Int) < (bs.length : Int) := by omega
  by_cases k0 : bt bs 0 = 47
  · by_cases k1 : bt bs 1 = 47
    · exact walk_line b o cap bs w hs h16 hT h2 k0 k1
    · by_cases k2 : bt bs 1 = 42
      · exact walk_block b o cap bs w hs h16 hT h2 k0 k2
      · have t0 : (((bt bs 0 : Nat) : Int) != 47) = false := by simp; omega
        have t1 : (((bt bs 1 : Nat) : Int) != 47) = true := by simp; omega
        have t2 : (((bt bs 1 : Nat) : Int) != 42) = true := by simp; omega
        clear hs hT hc k0 k1 k2
        go_enter Tryf.func4, Tryf.ntmps4
        go_wp2_with (first | (go_at_call 13; refine (bytes_yes _ bs.length cap w h20).mono ?_; rintro e w1 ⟨rfl, rfl⟩))
        go_ret
        exact ⟨rfl, Below.refl _ _⟩
  · have t0 : (((bt bs 0 : Nat) : Int) != 47) = true := by simp; omega
    clear hs hT hc k0
    go_enter Tryf.func4, Tryf.ntmps4
    go_wp2_with (first | (go_at_call 13; refine (bytes_yes _ bs.length cap w h20).mono ?_; rintro e w1 ⟨rfl, rfl⟩))
    go_ret
    exact ⟨rfl, Below.refl _ _⟩
theorem walk (w : World) (a : Option Addr) (len cap : Nat) (z : List Int) (h : IsRow .u8 w a len cap z) (hL : laidMet Tryf.prog Rows.fnScanCommentErrsOnlyWhenUnterminatedRow.laid w) :
    Calls Tryf.prog 4 #[.slice a len cap] w fun e w' => e = .returned (.bool true) ∧ Below w.heap.size w w' := by
  have e := h.bytes_len
  have hm := h.len_le
  have hw := walk0 a cap (bytesOf len z) w h.src (by rw [e]; unfold maxLen at hm; omega) (tabs_of (Lib.laidMet.reads hL (.head _)) (Lib.laidMet.reads hL (.tail _ (.head _))))
  rwa [e] at hw
end Go.Proofs.YtjikoccbgekfmaaFmt.CommLaw
