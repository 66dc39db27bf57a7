/-
  Proved: the walk of FnNewScannerInitialErrorCount returns true at every argument.
  Conditions: the library's UTF-8 tables hold what the row lists.
-/
import Derived.Test.YtcaolpebjpilgaaFmtInitPlain
import Derived.Test.YtcaolpebjpilgaaFmtCloneCopy85
import Derived.Test.YtcaolpebjpilgaaFmtTabs
import Derived.Deep.DeepCutAuto
import Derived.Deep.CutBlock
namespace Go.Proofs.YtcaolpebjpilgaaFmt.Init
open Go.ChangeShapes Go.WideShapes Go.ChangeAt Go.RowKit Core
set_option linter.unusedVariables false

theorem bytes_yes (a : Option Addr) (len cap : Nat) (m : Int) (w : World) (h : len ≤ 1048576) : Calls Tryf.prog 8 #[.slice a len cap, .int .i64 m] w fun e w' => e = .returned (.bool true) ∧ w = w' := by
  go_enter Tryf.func8, Tryf.ntmps8
  go_wp2_with fail
  go_ret
  exact ⟨rfl, rfl⟩
theorem bytes_no (a : Option Addr) (len cap : Nat) (m : Int) (w : World) (h : ¬ len ≤ 1048576) : Calls Tryf.prog 8 #[.slice a len cap, .int .i64 m] w fun e w' => e = .returned (.bool false) ∧ w = w' := by
  go_enter Tryf.func8, Tryf.ntmps8
  go_wp2_with fail
  go_ret
  exact ⟨rfl, rfl⟩
theorem count_any (S : Nat) (n : Int) (w : World) (h : w.cell? ⟨S, 8, none⟩ = some (.int .i64 n)) : Calls Tryf.prog 15 #[.pointer (some ⟨S, 0, none⟩)] w fun e w' => e = .returned (.int .i64 n) ∧ w = w' := by
  go_enter Tryf.func15, Tryf.ntmps15
  go_wp2_with fail
  go_ret
  exact ⟨rfl, rfl⟩
theorem row_of {w : World} {A : Option Addr} {cap : Nat} {bs : List UInt8} (h : Src w A cap bs) (hp : 0 < bs.length) : ∃ b o, A = some ⟨b, o, none⟩ ∧ Row w b o cap bs := h.2.2 hp
/-- zzIsBOMAt at a text of no byte. -/
theorem bomNil_any (a : Option Addr) (cap : Nat) (bs : List UInt8) (h0 : bs.length = 0) (w : World) : Calls Tryf.prog 11 #[.slice a bs.length cap, .int .i64 0] w fun e w' => e = .returned (.bool false) ∧ w = w' := by
  rw [h0]
  go_enter Tryf.func11, Tryf.ntmps11
  go_wp2_with fail
  go_ret
  exact ⟨rfl, rfl⟩
def n1 (bs : List UInt8) : Int := if want1 bs then 1 else 0

set_option maxHeartbeats 4000000 in
set_option maxRecDepth 20000 in
theorem walk0 (a : Option Addr) (cap : Nat) (bs : List UInt8) (mode : Int) (w : World) (hs : Src w a cap bs) (hN : a = none → bs.length = 0 ∧ cap = 0) (hlen : bs.length ≤ 9223372036854775807) (hT : Tabs w) :
    Calls Tryf.prog 3 #[.slice a bs.length cap, .int .i64 mode] w fun e w' => e = .returned (.bool true) ∧ Below w.heap.size w w' := by
  have HS := Lib.hid hs
  have HT := Lib.hid hT
  have HN := Lib.hid hN
  clear hs hT hN
  by_cases h20 : bs.length ≤ 1048576
  · go_enter Tryf.func3, Tryf.ntmps3
    go_wp2_with (first | (go_at_call 8; refine (bytes_yes a bs.length cap mode w h20).mono ?_; rintro e w1 ⟨rfl, rfl⟩))
    refine (P85.clone_any a cap bs w HS.out HN.out h20).mono ?_
    rintro e w1 ⟨A, cap1, rfl, hs1, ho1, hA1, hN1⟩
    have H1 := Lib.hid hs1
    have O1 := Lib.hid ho1
    have T1 := Lib.hid (HT.out.only ho1)
    clear hs1 ho1 hA1 HN HS hN1
    go_upto_region 7 with (fail)
    go_cut [23] (fun s wx => w1 = wx ∧ s = .bool (want1 bs))
    case first =>
      by_cases hp : 0 < bs.length
      · obtain ⟨b, o, rfl, hr⟩ := row_of H1.out hp
        have C := Lib.hid (badAt_any b o cap1 bs 0 w1 hp (by omega) hr)
        have e : want1 bs = badB bs 0 := by simp [want1, hp]
        have E := Lib.hid e
        have p0 : decide ((0 : Int) < (bs.length : Int)) = true := decide_eq_true (by omega)
        clear hr e
        go_wp2_with (go_at_call 10; refine C.out.mono ?_; rintro e w2 ⟨rfl, rfl⟩)
        go_meet
        exact ⟨rfl, by rw [E.out]⟩
      · have e : want1 bs = false := by simp [want1, hp]
        have E := Lib.hid e
        have p0 : decide ((0 : Int) < (bs.length : Int)) = false := decide_eq_false (by omega)
        clear e
        go_wp2_with fail
        go_meet
        exact ⟨rfl, by rw [E.out]⟩
    case rest =>
      obtain ⟨rfl, rfl⟩ := hcut
      go_upto_if 23 with (fail)
      go_cut [5] (fun s wx => w1 = wx ∧ s = .int .i64 (n1 bs))
      case first =>
        cases hb : want1 bs with
        | true =>
          have E := Lib.hid (show n1 bs = 1 by simp [n1, hb])
          go_wp2_with fail
          go_meet
          exact ⟨rfl, by rw [E.out]⟩
        | false =>
          have E := Lib.hid (show n1 bs = 0 by simp [n1, hb])
          go_wp2_with fail
          go_meet
          exact ⟨rfl, by rw [E.out]⟩
      case rest =>
        obtain ⟨rfl, rfl⟩ := hcut
        go_upto_region 9 with (fail)
        go_cut [32] (fun s wx => w1 = wx ∧ s = .bool (bomB bs 0 && decide (3 < bs.length)))
        case first =>
          by_cases hp : 0 < bs.length
          · obtain ⟨b, o, rfl, hr⟩ := row_of H1.out hp
            have C := Lib.hid (bomAt_any b o cap1 bs 0 w1 (by omega) (by omega) hr)
            clear hr
            cases hb : bomB bs 0 with
            | true =>
              rw [hb] at C
              by_cases h3 : 3 < bs.length
              · have p0 : decide ((3 : Int) < (bs.length : Int)) = true := decide_eq_true (by omega)
                go_wp2_with (go_at_call 11; refine C.out.mono ?_; rintro e w2 ⟨rfl, rfl⟩)
                go_meet
                exact ⟨rfl, by simp [hb, h3]⟩
              · have p0 : decide ((3 : Int) < (bs.length : Int)) = false := decide_eq_false (by omega)
                go_wp2_with (go_at_call 11; refine C.out.mono ?_; rintro e w2 ⟨rfl, rfl⟩)
                go_meet
                exact ⟨rfl, by simp [hb, h3]⟩
            | false =>
              rw [hb] at C
              go_wp2_with (go_at_call 11; refine C.out.mono ?_; rintro e w2 ⟨rfl, rfl⟩)
              go_meet
              exact ⟨rfl, by simp [hb]⟩
          · have h0 : bs.length = 0 := by omega
            have C := Lib.hid (bomNil_any A cap1 bs h0 w1)
            have E := Lib.hid (show (bomB bs 0 && decide (3 < bs.length)) = false by simp [h0])
            clear h0 hp
            go_wp2_with (go_at_call 11; refine C.out.mono ?_; rintro e w2 ⟨rfl, rfl⟩)
            go_meet
            exact ⟨rfl, by rw [E.out]⟩
        case rest =>
          obtain ⟨rfl, rfl⟩ := hcut
          go_upto_if 32 with (fail)
          go_cut [5] (fun s wx => w1 = wx ∧ s = .int .i64 (nxErr bs (bom bs)))
          case first =>
            have hn0 : 0 ≤ n1 bs ∧ n1 bs ≤ 1 := by unfold n1; split <;> omega
            cases hb : (bomB bs 0 && decide (3 < bs.length)) with
            | true =>
              have h3 : 3 < bs.length := by simp at hb; exact hb.2
              obtain ⟨b, o, rfl, hr⟩ := row_of H1.out (by omega)
              have C1 := Lib.hid (badAt_any b o cap1 bs 3 w1 h3 (by omega) hr)
              have C2 := Lib.hid (bomAt_any b o cap1 bs 3 w1 (by omega) (by omega) hr)
              have e2 : want2 bs = (badB bs 3 || bomB bs 3) := by unfold want2; rw [hb]; rfl
              clear hr
              cases k1 : badB bs 3 with
              | true =>
                rw [k1] at C1
                have E := Lib.hid (show nxErr bs (bom bs) = n1 bs + 1 by rw [count_eq]; unfold n1; rw [e2, k1]; rfl)
                clear e2
                go_wp2_with (first | (go_at_call 10; refine C1.out.mono ?_; rintro e w2 ⟨rfl, rfl⟩))
                go_meet
                exact ⟨rfl, by rw [E.out]⟩
              | false =>
                rw [k1] at C1
                cases k2 : bomB bs 3 with
                | true =>
                  rw [k2] at C2
                  have E := Lib.hid (show nxErr bs (bom bs) = n1 bs + 1 by rw [count_eq]; unfold n1; rw [e2, k1, k2]; rfl)
                  clear e2
                  go_wp2_with (first | (go_at_call 10; refine C1.out.mono ?_; rintro e w2 ⟨rfl, rfl⟩) | (go_at_call 11; refine C2.out.mono ?_; rintro e w2 ⟨rfl, rfl⟩))
                  go_meet
                  exact ⟨rfl, by rw [E.out]⟩
                | false =>
                  rw [k2] at C2
                  have E := Lib.hid (show nxErr bs (bom bs) = n1 bs by rw [count_eq]; unfold n1; rw [e2, k1, k2]; simp)
                  clear e2
                  go_wp2_with (first | (go_at_call 10; refine C1.out.mono ?_; rintro e w2 ⟨rfl, rfl⟩) | (go_at_call 11; refine C2.out.mono ?_; rintro e w2 ⟨rfl, rfl⟩))
                  go_meet
                  exact ⟨rfl, by rw [E.out]⟩
            | false =>
              have E := Lib.hid (show nxErr bs (bom bs) = n1 bs by rw [count_eq]; unfold n1; have : want2 bs = false := by { unfold want2; rw [hb]; rfl }; rw [this]; simp)
              go_wp2_with fail
              go_meet
              exact ⟨rfl, by rw [E.out]⟩
          case rest =>
            obtain ⟨rfl, rfl⟩ := hcut
            go_wp2_with fail
            refine (newFileSet_any w1).mono ?_
            rintro e w2 ⟨rfl, rfl⟩
            have hH := Lib.hid (Hold.fresh w1 48 #[.int .i64 1, .slice none 0 0, .pointer none])
            have o1 := Lib.hid ((Only.refl w1 []).fresh (.cells #[.int .i64 1, .slice none 0 0, .pointer none] 48))
            have e1 := Lib.hid (show (w1.alloc (.cells #[.int .i64 1, .slice none 0 0, .pointer none] 48)).heap.size = w1.heap.size + 1 by simp)
            generalize w1.alloc (.cells #[.int .i64 1, .slice none 0 0, .pointer none] 48) = w2 at *
            go_wp2_with fail
            refine (addFile_any w1.heap.size bs.length _ w2 hH.out (by omega)).mono ?_
            rintro e w3 ⟨F, L, rfl, hF, hF0, hL0, o2⟩
            have HF := Lib.hid hF
            have HF0 := Lib.hid hF0
            have HL0 := Lib.hid hL0
            have o3 := Lib.hid (o1.out.next o2 (by simp))
            clear hF hF0 hL0 o2
            go_wp2_with fail
            refine (newScanner_any F L A cap1 bs mode w3 HF.out (H1.out.keep o3.out (by simp)) ?_ (by omega) (T1.out.only o3.out) ?_).mono ?_
            · intro hp a ha
              obtain ⟨b, o, rfl, hc⟩ := H1.out.2.2 hp
              have h1 := World.block_lt_of_cell? w1 _ (hc 0 hp)
              have h2 := HF0.out
              have h3 := HL0.out
              have h4 := e1.out
              injection ha with ha
              subst ha
              simp only at h1 ⊢
              omega
            · have h1 := T1.out.lt
              have h2 := HF0.out
              have h3 := HL0.out
              have h4 := e1.out
              simp
              omega
            · rintro e w4 hN
              obtain ⟨S, rfl, hL⟩ := live_made (S := 0) T1.out (by omega) o3.out (by have := HF0.out; have := e1.out; omega) (by have := HL0.out; have := e1.out; omega) hN
              have c8 := hL.errsC
              have B := Lib.hid ((O1.out.next hL.only (by simp)).below (Nat.le_refl _) (by simp))
              clear hN hL
              go_wp2_with (go_at_call 15; refine (count_any S _ w4 c8).mono ?_; rintro e w5 ⟨rfl, rfl⟩)
              go_ret
              exact ⟨by simp, B.out⟩
  · go_enter Tryf.func3, Tryf.ntmps3
    go_wp2_with (first | (go_at_call 8; refine (bytes_no a bs.length cap mode w h20).mono ?_; rintro e w1 ⟨rfl, rfl⟩))
    go_ret
    exact ⟨rfl, Below.refl _ _⟩

theorem walk (w : World) (a : Option Addr) (len cap : Nat) (z : List Int) (m : Int) (h : IsRow .u8 w a len cap z) (hm0 : (Lit.int .i64 m).wf = true) (hL : laidMet Tryf.prog Rows.fnNewScannerInitialErrorCountRow.laid w) :
    Calls Tryf.prog 3 #[.slice a len cap, .int .i64 m] w fun e w' => e = .returned (.bool true) ∧ Below w.heap.size w w' := by
  have e := h.bytes_len
  have hm := h.len_le
  have hw := walk0 a cap (bytesOf len z) m w h.src (fun ha => by subst ha; rw [e]; exact h.none) (by rw [e]; unfold maxLen at hm; omega) (tabs_of (Lib.laidMet.reads hL (.head _)) (Lib.laidMet.reads hL (.tail _ (.head _))))
  rwa [e] at hw
end Go.Proofs.YtcaolpebjpilgaaFmt.Init
