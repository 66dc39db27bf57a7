/-
  Proved: the walk of FnSkipWhitespaceStopsAtFirstNonSpace returns true at every argument.
  Conditions: the library's UTF-8 tables hold what the row lists.
-/
import Derived.Test.YtcaolpebjpilgaaFmtWs
import Derived.Test.YtcaolpebjpilgaaFmtClone114
import Derived.Test.YtcaolpebjpilgaaFmtMake114
import Derived.Test.YtcaolpebjpilgaaFmtRows
import Derived.Deep.QuietTactic
import Derived.BigQuiet
import Derived.Deep.DeepCutAuto
import Derived.Deep.CutBlock
import Derived.Test.YtcaolpebjpilgaaFmtTabs
namespace Go.Proofs.YtcaolpebjpilgaaFmt.SkipLaw
open Go.ChangeShapes Go.WideShapes Go.ChangeAt Go.RowKit Core
set_option linter.unusedVariables false

theorem isWS_any (c : Nat) (w : World) : Calls Tryf.prog 26 #[.int .u8 c] w fun e w' => e = .returned (.bool (isWs c)) ∧ w' = w := by
  by_cases h : c = 32 ∨ c = 9 ∨ c = 10 ∨ c = 13
  · rcases h with rfl | rfl | rfl | rfl <;> (go_enter Tryf.func26, Tryf.ntmps26; go_wp2_with fail; go_ret; exact ⟨rfl, rfl⟩)
  · have e : isWs c = false := by unfold isWs; exact decide_eq_false h
    rw [e]
    have n1 : ((c : Int) == 32) = false := by simp; omega
    have n2 : ((c : Int) == 9) = false := by simp; omega
    have n3 : ((c : Int) == 10) = false := by simp; omega
    have n4 : ((c : Int) == 13) = false := by simp; omega
    clear h e
    go_enter Tryf.func26, Tryf.ntmps26
    go_wp2_with fail
    go_ret
    exact ⟨rfl, rfl⟩
theorem skipDoor_any {w0 w : World} {S : Nat} {bs : List UInt8} {p : Nat} {errs : Int} (h : Live w0 w S bs false 0 p errs) (h0 : 0 ≤ errs) (h1 : errs ≤ p + 1) :
    Calls Tryf.prog 28 #[.pointer (some ⟨S, 0, none⟩)] w fun e w' => e = .returned (.tuple #[]) ∧ ∃ errs', Live w0 w' S bs false 0 (wsEnd bs p) errs' ∧ 0 ≤ errs' ∧ errs' ≤ wsEnd bs p + 1 := by
  have C := Lib.hid (skip_any h h0 h1)
  clear h
  go_enter Tryf.func28, Tryf.ntmps28
  go_wp2_with fail
  refine C.out.mono ?_
  rintro e w1 ⟨rfl, h⟩
  go_wp2_with fail
  go_end0
  exact ⟨rfl, h⟩
theorem off_any (S : Nat) (p : Int) (w : World) (h : w.cell? ⟨S, 3, none⟩ = some (.int .i64 p)) : Calls Tryf.prog 29 #[.pointer (some ⟨S, 0, none⟩)] w fun e w' => e = .returned (.int .i64 p) ∧ w = w' := by
  go_enter Tryf.func29, Tryf.ntmps29
  go_wp2_with fail
  go_ret
  exact ⟨rfl, rfl⟩
theorem ch_any (S : Nat) (c : Int) (w : World) (h : w.cell? ⟨S, 2, none⟩ = some (.int .i32 c)) : Calls Tryf.prog 30 #[.pointer (some ⟨S, 0, none⟩)] w fun e w' => e = .returned (.int .i32 c) ∧ w = w' := by
  go_enter Tryf.func30, Tryf.ntmps30
  go_wp2_with fail
  go_ret
  exact ⟨rfl, rfl⟩
theorem bytes_yes (a : Option Addr) (len cap : Nat) (w : World) (h : len ≤ 1048576) : Calls Tryf.prog 24 #[.slice a len cap] w fun e w' => e = .returned (.bool true) ∧ w = w' := by
  go_enter Tryf.func24, Tryf.ntmps24
  go_wp2_with fail
  go_ret
  exact ⟨rfl, rfl⟩
theorem bytes_no (a : Option Addr) (len cap : Nat) (w : World) (h : ¬ len ≤ 1048576) : Calls Tryf.prog 24 #[.slice a len cap] w fun e w' => e = .returned (.bool false) ∧ w = w' := by
  go_enter Tryf.func24, Tryf.ntmps24
  go_wp2_with fail
  go_ret
  exact ⟨rfl, rfl⟩

/-- A text's cells. -/
theorem src_cell {w : World} {A : Option Addr} {cap : Nat} {bs : List UInt8} (h : Src w A cap bs) (hp : 0 < bs.length) : ∃ b o, A = some ⟨b, o, none⟩ ∧ ∀ j, j < bs.length → w.cell? ⟨b, o + j, none⟩ = some (.int .u8 (bt bs j)) := h.2.2 hp

def isBom (bs : List UInt8) : Bool := decide (3 ≤ bs.length ∧ bt bs 0 = 239 ∧ bt bs 1 = 187 ∧ bt bs 2 = 191)

set_option maxHeartbeats 4000000 in
set_option maxRecDepth 20000 in
theorem walk0 (a : Option Addr) (cap : Nat) (bs : List UInt8) (w : World) (hs : Src w a cap bs) (hN : a = none → bs.length = 0 ∧ cap = 0) (hlen : bs.length ≤ 9223372036854775807) (hT : Tabs w) :
    Calls Tryf.prog 6 #[.slice a bs.length cap] w fun e w' => e = .returned (.bool true) ∧ Below w.heap.size w w' := by
  have HS := Lib.hid hs
  have HT := Lib.hid hT
  have HN := Lib.hid hN
  clear hs hT hN
  by_cases h20 : bs.length ≤ 1048576
  · by_cases h16 : bs.length ≤ 65536
    · go_enter Tryf.func6, Tryf.ntmps6
      go_wp2_with (first | (go_at_call 24; refine (bytes_yes a bs.length cap w h20).mono ?_; rintro e w1 ⟨rfl, rfl⟩))
      refine (P114.clone_any a cap bs w HS.out HN.out h20).mono ?_
      rintro e w1 ⟨A, cap1, rfl, hs1, ho1, hA1, hN1⟩
      have H1 := Lib.hid hs1
      have O1 := Lib.hid ho1
      have T1 := Lib.hid (HT.out.only ho1)
      clear hs1 ho1 hA1 HN HS
      go_upto_region 7 with (fail)
      go_cut [34] (fun s wx => w1 = wx ∧ s = .bool (isBom bs))
      case first =>
        by_cases k0 : 3 ≤ bs.length
        · obtain ⟨b, o, rfl, hc⟩ := H1.out.2.2 (by omega)
          have c0 := hc 0 (by omega)
          have c1 := hc 1 (by omega)
          have c2 := hc 2 (by omega)
          have p0 : decide ((3 : Int) ≤ (bs.length : Int)) = true := decide_eq_true (by omega)
          have i0 : (0 : Int) < (bs.length : Int) := by omega
          have i1 : (1 : Int) < (bs.length : Int) := by omega
          have i2 : (2 : Int) < (bs.length : Int) := by omega
          clear hc
          rw [Nat.add_zero] at c0
          by_cases k1 : bt bs 0 = 239
          · by_cases k2 : bt bs 1 = 187
            · by_cases k3 : bt bs 2 = 191
              · have e : isBom bs = true := by unfold isBom; exact decide_eq_true ⟨k0, k1, k2, k3⟩
                have E := Lib.hid e
                rw [k1] at c0
                rw [k2] at c1
                rw [k3] at c2
                clear e
                go_wp2_with fail
                go_meet
                exact ⟨rfl, by rw [E.out]; first | done | rfl⟩
              · have e : isBom bs = false := by unfold isBom; exact decide_eq_false (by omega)
                have E := Lib.hid e
                rw [k1] at c0
                rw [k2] at c1
                have q3 : (((bt bs 2 : Nat) : Int) == 191) = false := by simp; omega
                clear e
                go_wp2_with fail
                go_meet
                exact ⟨rfl, by rw [E.out]; first | done | rfl⟩
            · have e : isBom bs = false := by unfold isBom; exact decide_eq_false (by omega)
              have E := Lib.hid e
              rw [k1] at c0
              have q3 : (((bt bs 1 : Nat) : Int) == 187) = false := by simp; omega
              clear e
              go_wp2_with fail
              go_meet
              exact ⟨rfl, by rw [E.out]; first | done | rfl⟩
          · have e : isBom bs = false := by unfold isBom; exact decide_eq_false (by omega)
            have E := Lib.hid e
            have q3 : (((bt bs 0 : Nat) : Int) == 239) = false := by simp; omega
            clear e
            go_wp2_with fail
            go_meet
            exact ⟨rfl, by rw [E.out]; first | done | rfl⟩
        · have e : isBom bs = false := by unfold isBom; exact decide_eq_false (by omega)
          have E := Lib.hid e
          have p0 : decide ((3 : Int) ≤ (bs.length : Int)) = false := decide_eq_false (by omega)
          clear e
          go_wp2_with fail
          go_meet
          exact ⟨rfl, by rw [E.out]; first | done | rfl⟩
      case rest =>
        obtain ⟨rfl, rfl⟩ := hcut
        go_upto_if 34 with (fail)
        go_cut [3] (fun s wx => w1 = wx ∧ s = .int .i64 (bom bs))
        case first =>
          cases hb : isBom bs with
          | true =>
            have e : bom bs = 3 := bom_yes (by unfold isBom at hb; exact of_decide_eq_true hb)
            have E := Lib.hid e
            clear e
            go_wp2_with fail
            go_meet
            exact ⟨rfl, by rw [E.out]; first | done | rfl⟩
          | false =>
            have e : bom bs = 0 := bom_no (by unfold isBom at hb; exact of_decide_eq_false hb)
            have E := Lib.hid e
            clear e
            go_wp2_with fail
            go_meet
            exact ⟨rfl, by rw [E.out]; first | done | rfl⟩
        case rest =>
          obtain ⟨rfl, rfl⟩ := hcut
          go_wp2_with fail
          go_loop [4] (fun vi => ∃ i : Nat, i ≤ bs.length ∧ vi = .int .i64 i ∧ wsEnd bs i = wsEnd bs (bom bs)) (fun vi => bs.length - (intOf vi).toNat)
          case atStart => exact ⟨bom bs, bom_le bs, rfl, rfl⟩
          case round =>
            obtain ⟨i, hi, rfl, eq⟩ := hrel
            have EQ := Lib.hid eq
            clear eq
            by_cases hgo : i < bs.length ∧ isWs (bt bs i) = true
            · obtain ⟨hlt, hw⟩ := hgo
              have hlt' : (i : Int) < (bs.length : Int) := by omega
              obtain ⟨b, o, rfl, hc⟩ := H1.out.2.2 (by omega)
              have ci := hc i hlt
              clear hc
              have C := Lib.hid (isWS_any (bt bs i) w1)
              rw [hw] at C
              have E2 := Lib.hid ((wsEnd_step hlt hw).trans EQ.out)
              go_wp2_with (go_at_call 26; refine C.out.mono ?_; rintro e w2 ⟨rfl, rfl⟩)
              go_round
              case rel => exact ⟨i + 1, by omega, by go_num, E2.out⟩
              case measure => simp [intOf]; omega
            · have hend : i = wsEnd bs (bom bs) := by
                rw [← EQ.out]
                exact (wsEnd_stop (fun hq => by cases hh : isWs (bt bs i) with
                  | false => rfl
                  | true => exact absurd ⟨hq, hh⟩ hgo)).symm
              have HE := Lib.hid hend
              clear hend EQ
              go_upto_region 10 with (fail)
              go_cut [46] (fun s wx => w1 = wx ∧ s = .bool false)
              case first =>
                by_cases hlt : i < bs.length
                · have hlt' : (i : Int) < (bs.length : Int) := by omega
                  obtain ⟨b, o, rfl, hc⟩ := H1.out.2.2 (by omega)
                  have ci := hc i hlt
                  clear hc
                  have hw : isWs (bt bs i) = false := by
                    cases hh : isWs (bt bs i) with
                    | false => rfl
                    | true => exact absurd ⟨hlt, hh⟩ hgo
                  have C := Lib.hid (isWS_any (bt bs i) w1)
                  rw [hw] at C
                  go_wp2_with (go_at_call 26; refine C.out.mono ?_; rintro e w2 ⟨rfl, rfl⟩)
                  go_meet
                  exact ⟨rfl, rfl⟩
                · have hlt' : ¬ (i : Int) < (bs.length : Int) := by omega
                  have hlt2 : decide ((i : Int) < (bs.length : Int)) = false := decide_eq_false hlt'
                  go_wp2_with fail
                  go_meet
                  exact ⟨rfl, rfl⟩
              case rest =>
                obtain ⟨rfl, rfl⟩ := hcut
                clear hgo
                go_wp2_with fail
                refine (P114.made_any A cap1 bs w1 H1.out (by omega) T1.out).mono ?_
                rintro e w2 ⟨S, rfl, hL⟩
                have HL := Lib.hid hL
                clear hL
                go_wp2_with fail
                have hne := nxErr_le (bs := bs) (p := bom bs)
                refine (skipDoor_any HL.out (by omega) (by omega)).mono ?_
                rintro e w3 ⟨rfl, er, hL3, _, _⟩
                rw [← HE.out] at hL3
                have c3 := hL3.off
                have c2 := hL3.ch
                have s3 := Lib.hid (H1.out.keep hL3.only (by simp))
                have B3 := Lib.hid ((O1.out.next hL3.only (by simp)).below (Nat.le_refl _) (by simp))
                clear hL3 HL
                by_cases hlt : i < bs.length
                · have hlt' : (i : Int) < (bs.length : Int) := by omega
                  have hle' : ((i : Int) == (bs.length : Int)) = false := by simp; omega
                  obtain ⟨b, o, rfl, hc⟩ := s3.out.2.2 (by omega)
                  have ci := hc i hlt
                  clear hc
                  by_cases ha : bt bs i < 128
                  · have ha' : decide (((bt bs i : Nat) : Int) < 128) = true := decide_eq_true (by omega)
                    rw [(nx_ascii hlt ha).1] at c2
                    have hm : (((bt bs i : Nat) : Int) == -1) = false := by rw [beq_eq_false_iff_ne]; omega
                    go_wp2_with (first | (go_at_call 29; refine (off_any S _ w3 c3).mono ?_; rintro e w4 ⟨rfl, rfl⟩) | (go_at_call 30; refine (ch_any S _ w3 c2).mono ?_; rintro e w4 ⟨rfl, rfl⟩))
                    go_quiet ((go_at_call 30; exact Calls.quiet_of_same ((ch_any S _ _ (by simpa using c2)).mono fun e w' h => ⟨h.1, h.2.symm⟩)))
                    go_wp2_with fail
                    go_ret
                    exact ⟨rfl, B3.out.trans ⟨rfl, rfl, rfl, Nat.le_refl _, fun _ _ => rfl⟩⟩
                  · have ha' : decide (((bt bs i : Nat) : Int) < 128) = false := decide_eq_false (by omega)
                    have hm : ((nxCh bs i : Int) == -1) = false := by rw [beq_eq_false_iff_ne]; have := nx_high hlt (by omega); omega
                    go_wp2_with (first | (go_at_call 29; refine (off_any S _ w3 c3).mono ?_; rintro e w4 ⟨rfl, rfl⟩) | (go_at_call 30; refine (ch_any S _ w3 c2).mono ?_; rintro e w4 ⟨rfl, rfl⟩))
                    go_quiet (fail)
                    go_wp2_with fail
                    go_ret
                    exact ⟨rfl, B3.out.trans ⟨rfl, rfl, rfl, Nat.le_refl _, fun _ _ => rfl⟩⟩
                · have hlt' : ¬ (i : Int) < (bs.length : Int) := by omega
                  have hlt2 : decide ((i : Int) < (bs.length : Int)) = false := decide_eq_false hlt'
                  have hie : i = bs.length := by omega
                  have hie' : ((i : Int) == (bs.length : Int)) = true := by simp; omega
                  rw [(nx_end (by omega)).1] at c2
                  go_wp2_with (first | (go_at_call 29; refine (off_any S _ w3 c3).mono ?_; rintro e w4 ⟨rfl, rfl⟩) | (go_at_call 30; refine (ch_any S _ w3 c2).mono ?_; rintro e w4 ⟨rfl, rfl⟩))
                  go_quiet (fail)
                  go_wp2_with fail
                  go_ret
                  exact ⟨rfl, B3.out.trans ⟨rfl, rfl, rfl, Nat.le_refl _, fun _ _ => rfl⟩⟩
    · go_enter Tryf.func6, Tryf.ntmps6
      go_wp2_with (first | (go_at_call 24; refine (bytes_yes a bs.length cap w h20).mono ?_; rintro e w1 ⟨rfl, rfl⟩))
      go_ret
      exact ⟨rfl, Below.refl _ _⟩
  · go_enter Tryf.func6, Tryf.ntmps6
    go_wp2_with (first | (go_at_call 24; refine (bytes_no a bs.length cap w h20).mono ?_; rintro e w1 ⟨rfl, rfl⟩))
    go_ret
    exact ⟨rfl, Below.refl _ _⟩

theorem walk (w : World) (a : Option Addr) (len cap : Nat) (z : List Int) (h : IsRow .u8 w a len cap z) (hL : laidMet Tryf.prog Rows.fnSkipWhitespaceStopsAtFirstNonSpaceRow.laid w) :
    Calls Tryf.prog 6 #[.slice a len cap] w fun e w' => e = .returned (.bool true) ∧ Below w.heap.size w w' := by
  have e := h.bytes_len
  have hm := h.len_le
  have hw := walk0 a cap (bytesOf len z) w h.src (fun ha => by subst ha; rw [e]; exact h.none) (by rw [e]; unfold maxLen at hm; omega) (tabs_of (Lib.laidMet.reads hL (.head _)) (Lib.laidMet.reads hL (.tail _ (.head _))))
  rwa [e] at hw
end Go.Proofs.YtcaolpebjpilgaaFmt.SkipLaw
