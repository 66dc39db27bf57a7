/-
  Proved: n002_74's zzPlainASCII, and its doors to scanRune and scanEscape, by contract.
  Conditions: the library's UTF-8 tables hold what the row lists. fmt's text is met, and nothing hangs on it.
-/
import Derived.Test.YtpdfompeoceklaaFmtRuneW
import Derived.Test.YtpdfompeoceklaaFmtTabs
import Derived.Test.YtpdfompeoceklaaFmtClone74
namespace Go.Proofs.YtpdfompeoceklaaFmt.RuneLaw
open Go.ChangeShapes Go.WideShapes Go.ChangeAt Go.RowKit Core
set_option linter.unusedVariables false

/-- What the door to scanRune answers. -/
def RuneOut (w : World) (bs : List UInt8) (e : Ending) (w' : World) : Prop :=
  ∃ (q : Nat) (er : Int), e = .returned (.tuple #[.string (strOf (sub bs 0 q)), .int .i64 q, .int .i64 er]) ∧ Below w.heap.size w w' ∧ 1 ≤ q ∧ q ≤ bs.length ∧ (er = 0 ↔ accept bs = true) ∧ 0 ≤ er ∧ (accept bs = true → ∃ r, oneEnd bs = some r ∧ q = r + 1)
set_option maxHeartbeats 2000000 in
theorem rune_door (A : Option Addr) (cap : Nat) (bs : List UInt8) (w : World) (hs : Src w A cap bs) (hn : bs.length ≤ 1048576) (hT : Tabs w) (hl : 1 ≤ bs.length) (hc : Plain bs) :
    Calls Tryf.prog 27 #[.slice A bs.length cap] w (RuneOut w bs) := by
  have HC := Lib.hid hc
  clear hc
  have HS := Lib.hid hs
  have HT := Lib.hid hT
  clear hs hT
  go_enter Tryf.func27, Tryf.ntmps27
  go_wp2_with fail
  refine (newFileSet_any w).mono ?_
  rintro e w1 ⟨rfl, rfl⟩
  have hH := Lib.hid (Hold.fresh w 63 #[.int .i64 1, .slice none 0 0, .pointer none])
  have o1 := Lib.hid ((Only.refl w []).fresh (.cells #[.int .i64 1, .slice none 0 0, .pointer none] 63))
  have e1 := Lib.hid (show (w.alloc (.cells #[.int .i64 1, .slice none 0 0, .pointer none] 63)).heap.size = w.heap.size + 1 by simp)
  generalize w.alloc (.cells #[.int .i64 1, .slice none 0 0, .pointer none] 63) = w1 at *
  go_wp2_with fail
  refine (addFile_any w.heap.size bs.length _ w1 hH.out (by omega)).mono ?_
  rintro e w2 ⟨F, L, rfl, hF, hF0, hL0, o2⟩
  have HF := Lib.hid hF
  have HF0 := Lib.hid hF0
  have HL0 := Lib.hid hL0
  have o3 := Lib.hid (o1.out.next o2 (by simp))
  clear hF hF0 hL0 o2
  go_wp2_with fail
  refine (newScanner_any F L A cap bs 0 w2 HF.out (HS.out.keep o3.out (by simp)) ?_ (by omega) (HT.out.only o3.out) ?_).mono ?_
  · intro hp a ha
    obtain ⟨b, o, rfl, hc⟩ := HS.out.2.2 hp
    have h1 := World.block_lt_of_cell? w _ (hc 0 hp)
    have h2 := HF0.out
    have h3 := HL0.out
    have h4 := e1.out
    injection ha with ha
    subst ha
    simp only at h1 ⊢
    omega
  · have h1 := HT.out.lt
    have h2 := HF0.out
    have h3 := HL0.out
    have h4 := e1.out
    simp
    omega
  · rintro e w3 hN
    obtain ⟨S, rfl, hL⟩ := live_made (S := 0) (fun _ => True) (fun _ _ => trivial) HT.out (by omega) o3.out (by have := HF0.out; have := e1.out; omega) (by have := HL0.out; have := e1.out; omega) hN
    rw [bom_ascii (HC.out 0 (by omega)).2, HC.out.err] at hL
    have C := Lib.hid (plain_next hL HC.out (by omega) (by omega) (by omega))
    clear hN hL
    go_wp2_with fail
    refine C.out.mono ?_
    rintro e w4 ⟨rfl, hL4⟩
    rw [Nat.zero_add] at hL4
    have C2 := Lib.hid (rune_any hL4 HC.out hl (by omega))
    clear hL4 C
    go_wp2_with fail
    refine C2.out.mono ?_
    rintro e w5 ⟨q, er, rfl, hL5, k1, k2, k3, k4, k5⟩
    have c3 := hL5.off
    have c8 := hL5.errsC
    have HLv := Lib.hid hL5
    have K := Lib.hid (And.intro k3 (And.intro k4 k5))
    clear hL5 C2 k3 k5
    go_wp2_with fail
    go_quiet (fail)
    go_wp2_with fail
    go_ret3
    exact ⟨q, er, rfl, (HLv.out.draws _).below, k1, k2, K.out⟩
/-- What the door to scanEscape answers. -/
def EscOut (w : World) (bs : List UInt8) (e : Ending) (w' : World) : Prop :=
  ∃ er : Int, e = .returned (.tuple #[.bool (escF bs 0 39).1, .int .i64 (escF bs 0 39).2, .int .i64 er]) ∧ Below w.heap.size w w'
set_option maxHeartbeats 2000000 in
theorem esc_door (A : Option Addr) (cap : Nat) (bs : List UInt8) (w : World) (hs : Src w A cap bs) (hn : bs.length ≤ 1048576) (hT : Tabs w) (hb0 : bt bs 0 < 128) :
    Calls Tryf.prog 28 #[.slice A bs.length cap, .int .i32 39] w (EscOut w bs) := by
  have HS := Lib.hid hs
  have HT := Lib.hid hT
  clear hs hT
  go_enter Tryf.func28, Tryf.ntmps28
  go_wp2_with fail
  refine (newFileSet_any w).mono ?_
  rintro e w1 ⟨rfl, rfl⟩
  have hH := Lib.hid (Hold.fresh w 63 #[.int .i64 1, .slice none 0 0, .pointer none])
  have o1 := Lib.hid ((Only.refl w []).fresh (.cells #[.int .i64 1, .slice none 0 0, .pointer none] 63))
  have e1 := Lib.hid (show (w.alloc (.cells #[.int .i64 1, .slice none 0 0, .pointer none] 63)).heap.size = w.heap.size + 1 by simp)
  generalize w.alloc (.cells #[.int .i64 1, .slice none 0 0, .pointer none] 63) = w1 at *
  go_wp2_with fail
  refine (addFile_any w.heap.size bs.length _ w1 hH.out (by omega)).mono ?_
  rintro e w2 ⟨F, L, rfl, hF, hF0, hL0, o2⟩
  have HF := Lib.hid hF
  have HF0 := Lib.hid hF0
  have HL0 := Lib.hid hL0
  have o3 := Lib.hid (o1.out.next o2 (by simp))
  clear hF hF0 hL0 o2
  go_wp2_with fail
  refine (newScanner_any F L A cap bs 0 w2 HF.out (HS.out.keep o3.out (by simp)) ?_ (by omega) (HT.out.only o3.out) ?_).mono ?_
  · intro hp a ha
    obtain ⟨b, o, rfl, hc⟩ := HS.out.2.2 hp
    have h1 := World.block_lt_of_cell? w _ (hc 0 hp)
    have h2 := HF0.out
    have h3 := HL0.out
    have h4 := e1.out
    injection ha with ha
    subst ha
    simp only at h1 ⊢
    omega
  · have h1 := HT.out.lt
    have h2 := HF0.out
    have h3 := HL0.out
    have h4 := e1.out
    simp
    omega
  · rintro e w3 hN
    obtain ⟨S, rfl, hL⟩ := live_made (S := 0) (fun _ => True) (fun _ _ => trivial) HT.out (by omega) o3.out (by have := HF0.out; have := e1.out; omega) (by have := HL0.out; have := e1.out; omega) hN
    rw [bom_ascii hb0] at hL
    have C := Lib.hid (escape_39 (E := 0) (by rw [Int.zero_add]; exact hL) (by omega) (by omega))
    clear hN hL
    go_wp2_with fail
    refine C.out.mono ?_
    rintro e w4 ⟨rfl, hL4⟩
    have c3 := hL4.off
    have c8 := hL4.errsC
    have HLv := Lib.hid hL4
    clear hL4 C
    generalize 0 + escErr (escF bs 0 39).1 + nxErr bs (escF bs 0 39).2 = er at *
    go_wp2_with fail
    go_quiet (fail)
    go_wp2_with fail
    go_ret3
    exact ⟨er, rfl, (HLv.out.draws _).below⟩
def AsciiOut (w : World) (bs : List UInt8) (e : Ending) (w' : World) : Prop := ∃ r : Bool, e = .returned (.bool r) ∧ w = w' ∧ (r = true → Plain bs)
set_option maxHeartbeats 1000000 in
theorem ascii_any (b o cap : Nat) (bs : List UInt8) (w : World) (hcc : ∀ j, j < bs.length → w.cell? ⟨b, o + j, none⟩ = some (.int .u8 (bt bs j))) (hn : bs.length ≤ 1048576) :
    Calls Tryf.prog 26 #[.slice (some ⟨b, o, none⟩) bs.length cap] w (AsciiOut w bs) := by
  have HCC := Lib.hid hcc
  clear hcc
  go_enter Tryf.func26, Tryf.ntmps26
  go_wp2_with fail
  go_loop [3] (fun v => ∃ i : Nat, i ≤ bs.length ∧ v = .int .i64 i ∧ Hid (∀ j, j < i → 0 < bt bs j ∧ bt bs j < 128)) (fun v => bs.length - (intOf v).toNat)
  case atStart => exact ⟨0, by omega, rfl, Lib.hid (fun j hj => absurd hj (by omega))⟩
  case round =>
    obtain ⟨i, hi, rfl, HI⟩ := hrel
    by_cases hlt : i < bs.length
    · have hlt' : (i : Int) < (bs.length : Int) := by omega
      have ci := HCC.out i hlt
      by_cases k0 : bt bs i = 0
      · have z0 : (((bt bs i : Nat) : Int) == 0) = true := by rw [beq_iff_eq]; omega
        clear k0
        generalize bt bs i = c at *
        go_wp2_with fail
        go_ret
        exact ⟨false, rfl, rfl, fun hh => by cases hh⟩
      · have z0 : (((bt bs i : Nat) : Int) == 0) = false := by rw [beq_eq_false_iff_ne]; omega
        by_cases k1 : bt bs i < 128
        · have z1 : decide ((128 : Int) ≤ ((bt bs i : Nat) : Int)) = false := decide_eq_false (by omega)
          have HI2 := Lib.hid (show ∀ j, j < i + 1 → 0 < bt bs j ∧ bt bs j < 128 from fun j hj => by
            by_cases e : j = i
            · subst e; omega
            · exact HI.out j (by omega))
          clear k0 k1
          generalize bt bs i = c at *
          go_wp2_with fail
          go_round
          case rel => exact ⟨i + 1, by omega, by go_num, HI2⟩
          case measure => simp [intOf]; omega
        · have z1 : decide ((128 : Int) ≤ ((bt bs i : Nat) : Int)) = true := decide_eq_true (by omega)
          clear k0 k1
          generalize bt bs i = c at *
          go_wp2_with fail
          go_ret
          exact ⟨false, rfl, rfl, fun hh => by cases hh⟩
    · have hlt' : ¬ (i : Int) < (bs.length : Int) := by omega
      have hie : i = bs.length := by omega
      subst hie
      go_wp2_with fail
      go_ret
      exact ⟨true, rfl, rfl, fun _ => HI.out⟩
end Go.Proofs.YtpdfompeoceklaaFmt.RuneLaw
