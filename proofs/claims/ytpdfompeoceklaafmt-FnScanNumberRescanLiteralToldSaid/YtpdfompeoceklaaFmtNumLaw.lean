/-
  Proved: the walk of FnScanNumberRescanLiteral returns true at every argument.
  Conditions: the library's UTF-8 tables hold what the row lists.
-/
import Derived.Test.YtpdfompeoceklaaFmtNumW
import Derived.Test.YtpdfompeoceklaaFmtTabs
import Derived.Test.YtpdfompeoceklaaFmtClone74
import Derived.Lib.ConvBytes
import Derived.Laws.AppendOwn
namespace Go.Proofs.YtpdfompeoceklaaFmt.NumLaw
open Go.ChangeShapes Go.WideShapes Go.ChangeAt Go.RowKit Core
set_option linter.unusedVariables false

def isDec (c : Nat) : Bool := decide (48 ≤ c ∧ c ≤ 57)
theorem dec_any (c : Nat) (w : World) : Calls Tryf.prog 29 #[.int .u8 c] w fun e w' => e = .returned (.bool (isDec c)) ∧ w = w' := by
  by_cases h : 48 ≤ c
  · by_cases k : c ≤ 57
    · have e : isDec c = true := by unfold isDec; exact decide_eq_true ⟨h, k⟩
      rw [e]
      have d1 : decide ((48 : Int) ≤ (c : Int)) = true := decide_eq_true (by omega)
      have d2 : decide ((c : Int) ≤ 57) = true := decide_eq_true (by omega)
      clear e
      go_enter Tryf.func29, Tryf.ntmps29
      go_wp2_with fail
      go_ret
      exact ⟨rfl, rfl⟩
    · have e : isDec c = false := by unfold isDec; exact decide_eq_false (by omega)
      rw [e]
      have d1 : decide ((48 : Int) ≤ (c : Int)) = true := decide_eq_true (by omega)
      have d2 : decide ((c : Int) ≤ 57) = false := decide_eq_false (by omega)
      clear e
      go_enter Tryf.func29, Tryf.ntmps29
      go_wp2_with fail
      go_ret
      exact ⟨rfl, rfl⟩
  · have e : isDec c = false := by unfold isDec; exact decide_eq_false (by omega)
    rw [e]
    have d1 : decide ((48 : Int) ≤ (c : Int)) = false := decide_eq_false (by omega)
    clear e
    go_enter Tryf.func29, Tryf.ntmps29
    go_wp2_with fail
    go_ret
    exact ⟨rfl, rfl⟩
/-- The text starts a number. -/
def isStart (bs : List UInt8) : Bool := decide (0 < bs.length) && (isDec (bt bs 0) || (decide (bt bs 0 = 46) && (decide (2 ≤ bs.length) && isDec (bt bs 1))))
set_option maxHeartbeats 1000000 in
theorem start_any (a : Option Addr) (cap : Nat) (bs : List UInt8) (w : World) (hs : Src w a cap bs) (hn : bs.length ≤ 1048576) :
    Calls Tryf.prog 8 #[.slice a bs.length cap] w fun e w' => e = .returned (.bool (isStart bs)) ∧ w = w' := by
  by_cases h0 : 0 < bs.length
  · obtain ⟨b, o, rfl, hc⟩ := hs.2.2 h0
    have c0 := hc 0 h0
    rw [Nat.add_zero] at c0
    have n0 : ((bs.length : Int) == 0) = false := by rw [beq_eq_false_iff_ne]; omega
    have i0 : (0 : Int) < (bs.length : Int) := by omega
    have D := Lib.hid (dec_any (bt bs 0) w)
    cases h1 : isDec (bt bs 0) with
    | true =>
      have e : isStart bs = true := by unfold isStart; rw [h1, decide_eq_true h0]; rfl
      have EE := Lib.hid e
      rw [h1] at D
      clear hs hc e h1
      go_enter Tryf.func8, Tryf.ntmps8
      go_wp2_with (first | (go_at_call 29; refine D.out.mono ?_; rintro e w1 ⟨rfl, rfl⟩))
      go_ret
      exact ⟨by rw [EE.out]; rfl, rfl⟩
    | false =>
      rw [h1] at D
      by_cases h2 : bt bs 0 = 46
      · by_cases h3 : 2 ≤ bs.length
        · have c1 := hc 1 (by omega)
          have i1 : (1 : Int) < (bs.length : Int) := by omega
          have D1 := Lib.hid (dec_any (bt bs 1) w)
          have t2 : decide ((2 : Int) ≤ (bs.length : Int)) = true := decide_eq_true (by omega)
          have e : isStart bs = isDec (bt bs 1) := by unfold isStart; rw [h1, decide_eq_true h0, decide_eq_true h2, decide_eq_true h3]; rfl
          have EE := Lib.hid e
          have t46 : (((bt bs 0 : Nat) : Int) == 46) = true := by rw [beq_iff_eq]; omega
          clear hs hc e h1 h2
          generalize bt bs 0 = x at *
          generalize hd : isDec (bt bs 1) = d at *
          generalize bt bs 1 = y at *
          clear hd
          go_enter Tryf.func8, Tryf.ntmps8
          cases d
          · go_wp2_with (first | (go_at_call 29; (with_reducible refine D.out.mono ?_); rintro e w1 ⟨rfl, rfl⟩) | (go_at_call 29; (with_reducible refine D1.out.mono ?_); rintro e w1 ⟨rfl, rfl⟩))
            go_ret
            exact ⟨by rw [EE.out]; rfl, rfl⟩
          · go_wp2_with (first | (go_at_call 29; (with_reducible refine D.out.mono ?_); rintro e w1 ⟨rfl, rfl⟩) | (go_at_call 29; (with_reducible refine D1.out.mono ?_); rintro e w1 ⟨rfl, rfl⟩))
            go_ret
            exact ⟨by rw [EE.out]; rfl, rfl⟩
        · have t2 : decide ((2 : Int) ≤ (bs.length : Int)) = false := decide_eq_false (by omega)
          have e : isStart bs = false := by unfold isStart; rw [h1, decide_eq_true h0, decide_eq_true h2, decide_eq_false h3]; rfl
          have EE := Lib.hid e
          have t46 : (((bt bs 0 : Nat) : Int) == 46) = true := by rw [beq_iff_eq]; omega
          clear hs hc e h1 h2
          go_enter Tryf.func8, Tryf.ntmps8
          go_wp2_with (first | (go_at_call 29; refine D.out.mono ?_; rintro e w1 ⟨rfl, rfl⟩))
          go_ret
          exact ⟨by rw [EE.out]; rfl, rfl⟩
      · have t2 : (((bt bs 0 : Nat) : Int) == 46) = false := by rw [beq_eq_false_iff_ne]; omega
        have e : isStart bs = false := by unfold isStart; rw [h1, decide_eq_true h0, decide_eq_false h2]; rfl
        have EE := Lib.hid e
        clear hs hc e h1 h2
        go_enter Tryf.func8, Tryf.ntmps8
        go_wp2_with (first | (go_at_call 29; refine D.out.mono ?_; rintro e w1 ⟨rfl, rfl⟩))
        go_ret
        exact ⟨by rw [EE.out]; rfl, rfl⟩
  · have n0 : ((bs.length : Int) == 0) = true := by rw [beq_iff_eq]; omega
    have e : isStart bs = false := by unfold isStart; rw [decide_eq_false h0]; rfl
    have EE := Lib.hid e
    clear hs e h0
    go_enter Tryf.func8, Tryf.ntmps8
    go_wp2_with fail
    go_ret
    exact ⟨by rw [EE.out]; rfl, rfl⟩
/-- Such a text's literal is not empty, and its first byte is clean. -/
theorem start_pos {bs : List UInt8} (h : isStart bs = true) : 0 < bs.length ∧ 0 < bt bs 0 ∧ bt bs 0 < 128 ∧ 0 < numEnd bs 0 := by
  have h' : 0 < bs.length ∧ ((48 ≤ bt bs 0 ∧ bt bs 0 ≤ 57) ∨ (bt bs 0 = 46)) := by
    unfold isStart isDec at h
    simp at h
    rcases h with ⟨a, b | b⟩
    · exact ⟨by omega, .inl b⟩
    · exact ⟨by omega, .inr b.1⟩
  obtain ⟨h0, h1⟩ := h'
  refine ⟨h0, by omega, by omega, ?_⟩
  have bp := preEnd_le (bs := bs) (p := 0) (by omega)
  have bw := wholeEnd_le (bs := bs) (p := 0) (by omega)
  have bf := fracEnd_le (bs := bs) (p := 0) (by omega)
  have bn := numEnd_le (bs := bs) (p := 0) (by omega)
  rcases baseOf_cases bs 0 with hb | ⟨hb, _⟩
  · have ep : preEnd bs 0 = 0 := by unfold preEnd; rw [if_pos hb]
    rcases h1 with h1 | h1
    · have hd : isDg 10 (bt bs 0 : Int) = true := by
        unfold isDg
        refine decide_eq_true (.inr ?_)
        have := dv_in (c := (bt bs 0 : Int)) (by omega)
        omega
      have e := digEnd_step h0 hd
      rw [Nat.zero_add] at e
      have := (digEnd_le (bs := bs) (base := 10) (p := 1) (by omega)).1
      have ew : wholeEnd bs 0 = digEnd bs 10 0 := by unfold wholeEnd; rw [hb, ep]
      omega
    · have hd : isDg 10 (bt bs 0 : Int) = false := by
        rw [h1]; rfl
      have ew : wholeEnd bs 0 = 0 := by unfold wholeEnd; rw [hb, ep]; exact digEnd_stop (fun _ => hd)
      have ed : isDot bs 0 = true := by unfold isDot; rw [ew, hb, atB_iff.2 ⟨h0, h1⟩]; rfl
      have := bf.2.2 ed
      omega
  · have ep : preEnd bs 0 = 2 := by unfold preEnd; rw [if_neg (by omega)]
    omega

set_option maxHeartbeats 2000000 in
theorem scanNum_any (A : Option Addr) (cap : Nat) (bs : List UInt8) (w : World) (hs : Src w A cap bs) (hn : bs.length ≤ 1048576) (hT : Tabs w) (hb0 : bt bs 0 < 128) (hpe : 0 < numEnd bs 0) :
    Calls Tryf.prog 10 #[.slice A bs.length cap] w fun e w' => e = .returned (.tuple #[.int .i64 (tokOf (numFloat bs 0)), .string ⟨(sub bs 0 (numEnd bs 0)).toArray⟩, .int .i64 (numEnd bs 0), .int .i64 (0 + numErr bs 0 + nxErr bs (numEnd bs 0))]) ∧ Below w.heap.size w w' := by
  have HS := Lib.hid hs
  have HT := Lib.hid hT
  clear hs hT
  go_enter Tryf.func10, Tryf.ntmps10
  go_wp2_with fail
  refine (newFileSet_any w).mono ?_
  rintro e w1 ⟨rfl, rfl⟩
  have hH := Lib.hid (Hold.fresh w 63 #[.int .i64 1, .slice none 0 0, .pointer none])
  have o1 := Lib.hid ((Only.refl w []).fresh (.cells #[.int .i64 1, .slice none 0 0, .pointer none] 63))
  have e1 := Lib.hid (show (w.alloc (.cells #[.int .i64 1, .slice none 0 0, .pointer none] 63)).heap.size = w.heap.size + 1 by simp)
  generalize w.alloc (.cells #[.int .i64 1, .slice none 0 0, .pointer none] 63) = w1 at *
  go_wp2_with fail
  refine (addFile_any w.heap.size bs.length _ w1 hH.out (by omega)).mono ?_
  rintro e w2 ⟨F, L, rfl, hF, hF0, hL0, o2⟩
  have HF := Lib.hid hF
  have HF0 := Lib.hid hF0
  have HL0 := Lib.hid hL0
  have o3 := Lib.hid (o1.out.next o2 (by simp))
  clear hF hF0 hL0 o2
  go_wp2_with fail
  refine (newScanner_any F L A cap bs 0 w2 HF.out (HS.out.keep o3.out (by simp)) ?_ (by omega) (HT.out.only o3.out) ?_).mono ?_
  · intro hp a ha
    obtain ⟨b, o, rfl, hc⟩ := HS.out.2.2 hp
    have h1 := World.block_lt_of_cell? w _ (hc 0 hp)
    have h2 := HF0.out
    have h3 := HL0.out
    have h4 := e1.out
    injection ha with ha
    subst ha
    simp only at h1 ⊢
    omega
  · have h1 := HT.out.lt
    have h2 := HF0.out
    have h3 := HL0.out
    have h4 := e1.out
    simp
    omega
  · rintro e w3 hN
    obtain ⟨S, rfl, hL⟩ := live_made (S := 0) (fun _ => True) (fun _ _ => trivial) HT.out (by omega) o3.out (by have := HF0.out; have := e1.out; omega) (by have := HL0.out; have := e1.out; omega) hN
    rw [bom_ascii hb0] at hL
    have C := Lib.hid (number_any (E := 0) (by rw [Int.zero_add]; exact hL) (by omega) (by omega) hpe)
    clear hN hL
    go_wp2_with fail
    refine C.out.mono ?_
    rintro e w4 ⟨rfl, hL4⟩
    have c3 := hL4.off
    have c8 := hL4.errsC
    have HLv := Lib.hid hL4
    clear hL4 C
    go_wp2_with fail
    go_quiet (fail)
    go_wp2_with fail
    refine bodyPost_ret (v := .tuple #[.int .i64 (tokOf (numFloat bs 0)), .string ⟨(sub bs 0 (numEnd bs 0)).toArray⟩, .int .i64 (numEnd bs 0), .int .i64 (0 + numErr bs 0 + nxErr bs (numEnd bs 0))]) (by simp [results, Tryf.results10, go_sem]) rfl ⟨rfl, ?_⟩
    exact (HLv.out.draws _).below
end Go.Proofs.YtpdfompeoceklaaFmt.NumLaw
