/-
  Proved: the walk of FnStringStringASCIIModel returns true at every argument.
  Conditions: the library's tables start as the program's text lays them.
-/
import Derived.Test.YtpniflbleihdoaaDoorUndef
import Derived.Test.YtpniflbleihdoaaDoorQPlain
import Derived.Lib.BufSteps
import Derived.Shelf.Strconv.Quote
import Derived.Deep.QuietTactic
import Derived.BigQuiet
import Derived.BigFrame
import Derived.Lib.QuoteHex
namespace Go.Proofs.YtpniflbleihdoaaDoor.Ascii
open Go.ChangeShapes Go.WideShapes Go.ChangeAt Go.RowKit Go.Shelf Go.Lib Tok Undef QPlain
set_option linter.unusedVariables false

/-- zzSimpleEscape. -/
theorem simple_any (c : Nat) (w : World) : Calls Tryd.prog 39 #[.int .u8 c] w fun e w' => e = .returned (.int .u8 (smp c)) ∧ w = w' := by
  by_cases h : c = 7 ∨ c = 8 ∨ c = 12 ∨ c = 10 ∨ c = 13 ∨ c = 9 ∨ c = 11
  · rcases h with rfl | rfl | rfl | rfl | rfl | rfl | rfl <;> (go_enter Tryd.func39, Tryd.ntmps39; go_wp2_with fail; go_ret; exact ⟨rfl, rfl⟩)
  · have e : smp c = 0 := by unfold smp; repeat (rw [if_neg (by omega)])
    rw [e]
    have n1 : ((c : Int) == 7) = false := by simp; omega
    have n2 : ((c : Int) == 8) = false := by simp; omega
    have n3 : ((c : Int) == 12) = false := by simp; omega
    have n4 : ((c : Int) == 10) = false := by simp; omega
    have n5 : ((c : Int) == 13) = false := by simp; omega
    have n6 : ((c : Int) == 9) = false := by simp; omega
    have n7 : ((c : Int) == 11) = false := by simp; omega
    clear h e
    go_enter Tryd.func39, Tryd.ntmps39
    go_wp2_with fail
    go_ret
    exact ⟨rfl, rfl⟩

theorem byteInfo : (Tryd.prog.info? 5).map (fun i => (i.zero, i.size, i.bytes)) = some (some (.int .u8 0), 1, 1) := by kernel_rfl

theorem hex_at (x : Nat) (h : x < ({ data := #[48, 49, 50, 51, 52, 53, 54, 55, 56, 57, 97, 98, 99, 100, 101, 102] } : ByteArray).size) :
    (((({ data := #[48, 49, 50, 51, 52, 53, 54, 55, 56, 57, 97, 98, 99, 100, 101, 102] } : ByteArray)[x]'h).toNat : Nat) : Int) = Lib.hexDigit x := Lib.lowerhex_at x h

def upto (s : ByteArray) (i : Nat) : List Int := flat (s.data.toList.take i)
theorem upto_next (s : ByteArray) {i : Nat} (h : i < s.size) : upto s (i + 1) = upto s i ++ escM (s[i]'h).toNat := by
  unfold upto
  have hl : i < s.data.toList.length := by simpa using h
  rw [List.take_succ_eq_append_getElem hl, flat_snoc]
  rfl
theorem upto_len (s : ByteArray) (i : Nat) : (upto s i).length ≤ 4 * s.size := by
  have := flat_len (s.data.toList.take i)
  have h2 : (s.data.toList.take i).length ≤ s.size := by rw [List.length_take]; show _ ≤ s.data.size; simp; omega
  unfold upto
  omega

set_option maxHeartbeats 4000000 in
set_option maxRecDepth 20000 in
/-- zzQuoteASCIIModel. -/
theorem model_any (s : ByteArray) (w : World) (h : s.size ≤ 65536) :
    Calls Tryd.prog 13 #[.string s] w fun e w' => ∃ v', e = .returned v' ∧ OwnBuf w.heap.size 5 v' (0 + (mdl s).length) ([] ++ intCells (mdl s)) w w' := by
  obtain ⟨i0, hi, hz0, hz1, hz2⟩ := info_parts byteInfo
  have hlenB := upto_len s
  obtain ⟨c, hc⟩ : ∃ c, c = 4 * s.size + 2 := ⟨_, rfl⟩
  have hcI : 4 * (s.size : Int) + 2 = (c : Int) := by omega
  have Hc := Lib.hid hc
  clear hc
  go_enter Tryd.func13, Tryd.ntmps13
  go_wp2_with (first
    | (at_make; refine wpList_make_own _ rfl _ _ 31 rfl w.heap.size 5 i0 (.int .u8 0) 1 Tryd.underlying31 hi hz0 hz1 _ _ _ c rfl rfl (by first | rfl | assumption) (by rw [hz2]; have := Hc.out; omega) (by unfold maxLen; have := Hc.out; omega) (Nat.le_refl _) ?_; intro w1 hown hg
       have hb : OwnBuf w.heap.size 5 (.slice (some ⟨w.heap.size, 0, none⟩) 0 c) 0 [] w w1 := ⟨World.ownsRowF_of hown, (Below.refl _ _).grown hg (Nat.le_refl _) (by intro k hk; cases hk), hg.size⟩
       clear hown hg)
    | (at_builtin; refine Lib.wpList_append_byte rfl _ _ 31 rfl w.heap.size 5 i0 Tryd.underlying31 hi hz0 hz1 hz2 _ _ _ rfl w _ _ (by assumption) rfl (by omega) ?_; intro _ _ hb))
  have Hb0 := Lib.hid hb
  clear hb
  go_loopw [3, 4, 5, 6] (fun vo vi _ _ wr => ∃ i : Nat, i ≤ s.size ∧ vi = .int .i64 i ∧ Hid (OwnBuf w.heap.size 5 vo (1 + (upto s i).length) (intCells (34 :: upto s i)) w wr)) (fun _ vi _ _ _ => s.size - (intOf vi).toNat)
  case atStart => exact ⟨0, by omega, rfl, by simpa [Hid, upto, flat, intCells] using Hb0.out⟩
  case round =>
    obtain ⟨i, hi', rfl, HB⟩ := hrel
    have hl1 := upto_len s i
    by_cases hlt : i < s.size
    · have hlt' : (i : Int) < (s.size : Int) := by omega
      have hb := HB.out
      have hstep := upto_next s hlt
      generalize hcc : (s[i]'hlt).toNat = cc at hstep
      have Hstep := Lib.hid hstep
      clear hstep
      have hcx : cc < 256 := by rw [← hcc]; exact UInt8.toNat_lt _
      by_cases h34 : cc = 34
      · subst h34
        have he := (show escM 34 = [92, 34] from rfl)
        rw [he] at Hstep
        clear he
        go_wp2_with (first | (at_builtin; refine Lib.wpList_append_byte rfl _ _ 31 rfl w.heap.size 5 i0 Tryd.underlying31 hi hz0 hz1 hz2 _ _ _ rfl w _ _ (by assumption) rfl (by omega) ?_; intro _ _ hb) | (go_at_call 39; refine (simple_any cc _).mono ?_; rintro e w1 ⟨rfl, rfl⟩))
        go_roundw
        case rel =>
          refine ⟨i + 1, by omega, by go_num, ?_⟩
          rw [Hstep.out]
          simpa [Hid, intCells, Nat.add_assoc, hex_at] using hb
        case measure => simp [intOf]; omega
      · by_cases h92 : cc = 92
        · subst h92
          have he := (show escM 92 = [92, 92] from rfl)
          rw [he] at Hstep
          clear he
          go_wp2_with (first | (at_builtin; refine Lib.wpList_append_byte rfl _ _ 31 rfl w.heap.size 5 i0 Tryd.underlying31 hi hz0 hz1 hz2 _ _ _ rfl w _ _ (by assumption) rfl (by omega) ?_; intro _ _ hb) | (go_at_call 39; refine (simple_any cc _).mono ?_; rintro e w1 ⟨rfl, rfl⟩))
          go_roundw
          case rel =>
            refine ⟨i + 1, by omega, by go_num, ?_⟩
            rw [Hstep.out]
            simpa [Hid, intCells, Nat.add_assoc, hex_at] using hb
          case measure => simp [intOf]; omega
        · have n1 : ((cc : Int) == 34) = false := by simp; omega
          have n2 : ((cc : Int) == 92) = false := by simp; omega
          by_cases hp : 32 ≤ cc ∧ cc < 127
          · obtain ⟨hp1, hp2⟩ := hp
            have p1 : decide ((32 : Int) ≤ (cc : Int)) = true := decide_eq_true (by omega)
            have p2 : decide ((cc : Int) < 127) = true := decide_eq_true (by omega)
            have he := (show escM cc = [(cc : Int)] by unfold escM; rw [if_neg (by omega), if_pos ⟨hp1, hp2⟩])
            rw [he] at Hstep
            clear he
            go_wp2_with (first | (at_builtin; refine Lib.wpList_append_byte rfl _ _ 31 rfl w.heap.size 5 i0 Tryd.underlying31 hi hz0 hz1 hz2 _ _ _ rfl w _ _ (by assumption) rfl (by omega) ?_; intro _ _ hb) | (go_at_call 39; refine (simple_any cc _).mono ?_; rintro e w1 ⟨rfl, rfl⟩))
            go_roundw
            case rel =>
              refine ⟨i + 1, by omega, by go_num, ?_⟩
              rw [Hstep.out]
              simpa [Hid, intCells, Nat.add_assoc, hex_at] using hb
            case measure => simp [intOf]; omega
          · have hp' : cc < 32 ∨ 127 ≤ cc := by omega
            by_cases hs : smp cc = 0
            · have s0 : (((smp cc : Nat) : Int) != 0) = false := by rw [hs]; rfl
              have hx1 : 0 ≤ (cc : Int) / 16 ∧ (cc : Int) / 16 < 16 := by omega
              rcases hp' with hp' | hp'
              · have p1 : decide ((32 : Int) ≤ (cc : Int)) = false := decide_eq_false (by omega)
                have he := (show escM cc = [92, 120, Lib.hexDigit (cc / 16), Lib.hexDigit (cc % 16)] by unfold escM; rw [if_neg (by omega), if_neg (by omega), if_neg (by simp [hs])])
                rw [he] at Hstep
                clear he
                go_big_wp2_with (first | (at_builtin; refine Lib.wpList_append_byte rfl _ _ 31 rfl w.heap.size 5 i0 Tryd.underlying31 hi hz0 hz1 hz2 _ _ _ rfl w _ _ (by assumption) rfl (by omega) ?_; intro _ _ hb) | (go_at_call 39; refine (simple_any cc _).mono ?_; rintro e w1 ⟨rfl, rfl⟩))
                go_roundw
                case rel =>
                  refine ⟨i + 1, by omega, by go_num, ?_⟩
                  rw [Hstep.out]
                  simpa [Hid, intCells, Nat.add_assoc, hex_at] using hb
                case measure => simp [intOf]; omega
              · have p1 : decide ((32 : Int) ≤ (cc : Int)) = true := decide_eq_true (by omega)
                have p2 : decide ((cc : Int) < 127) = false := decide_eq_false (by omega)
                have he := (show escM cc = [92, 120, Lib.hexDigit (cc / 16), Lib.hexDigit (cc % 16)] by unfold escM; rw [if_neg (by omega), if_neg (by omega), if_neg (by simp [hs])])
                rw [he] at Hstep
                clear he
                go_big_wp2_with (first | (at_builtin; refine Lib.wpList_append_byte rfl _ _ 31 rfl w.heap.size 5 i0 Tryd.underlying31 hi hz0 hz1 hz2 _ _ _ rfl w _ _ (by assumption) rfl (by omega) ?_; intro _ _ hb) | (go_at_call 39; refine (simple_any cc _).mono ?_; rintro e w1 ⟨rfl, rfl⟩))
                go_roundw
                case rel =>
                  refine ⟨i + 1, by omega, by go_num, ?_⟩
                  rw [Hstep.out]
                  simpa [Hid, intCells, Nat.add_assoc, hex_at] using hb
                case measure => simp [intOf]; omega
            · have s0 : (((smp cc : Nat) : Int) != 0) = true := by simp; omega
              have hs32 : cc < 32 := by
                rcases Classical.em (cc < 32) with k | k
                · exact k
                · exact absurd (show smp cc = 0 by unfold smp; repeat (rw [if_neg (by omega)])) hs
              have p1 : decide ((32 : Int) ≤ (cc : Int)) = false := decide_eq_false (by omega)
              have he := (show escM cc = [92, ((smp cc : Nat) : Int)] by unfold escM; rw [if_neg (by omega), if_neg (by omega), if_pos hs])
              rw [he] at Hstep
              clear he
              go_wp2_with (first | (at_builtin; refine Lib.wpList_append_byte rfl _ _ 31 rfl w.heap.size 5 i0 Tryd.underlying31 hi hz0 hz1 hz2 _ _ _ rfl w _ _ (by assumption) rfl (by omega) ?_; intro _ _ hb) | (go_at_call 39; refine (simple_any cc _).mono ?_; rintro e w1 ⟨rfl, rfl⟩))
              go_roundw
              case rel =>
                refine ⟨i + 1, by omega, by go_num, ?_⟩
                rw [Hstep.out]
                simpa [Hid, intCells, Nat.add_assoc, hex_at] using hb
              case measure => simp [intOf]; omega
    · have hlt' : ¬ (i : Int) < (s.size : Int) := by omega
      have hb := HB.out
      have he : upto s i = flat s.data.toList := by
        unfold upto
        rw [List.take_of_length_le (by show s.data.toList.length ≤ i; simp; show s.size ≤ i; omega)]
      go_wp2_with (at_builtin; refine Lib.wpList_append_byte rfl _ _ 31 rfl w.heap.size 5 i0 Tryd.underlying31 hi hz0 hz1 hz2 _ _ _ rfl w _ _ (by assumption) rfl (by omega) ?_; intro _ _ hb)
      go_ret
      refine ⟨_, rfl, ?_⟩
      rw [he] at hb
      simpa [mdl, intCells, Nat.add_comm, Nat.add_left_comm, Nat.add_assoc] using hb

/-- zzSameBytes, where the bytes are the same. -/
theorem same_any (b cap : Nat) (l : List Int) (z : ByteArray) (w : World) (hl : l.length = z.size) (hz : ∀ i (h : i < z.size), ((z[i]'h).toNat : Int) = l.getD i 0) (hc : ∀ i, i < l.length → w.cell? ⟨b, 0 + i, none⟩ = some (.int .u8 (l.getD i 0))) (hle : l.length ≤ 1000000) :
    Calls Tryd.prog 12 #[.slice (some ⟨b, 0, none⟩) l.length cap, .string z] w fun e w' => e = .returned (.bool true) ∧ ∃ k, w' = w.drewN k := by
  have HC := Lib.hid hc
  have HZ := Lib.hid hz
  clear hc hz
  have e0 : ((l.length : Int) != (z.size : Int)) = false := by rw [hl]; simp
  have hl' : (l.length : Int) = (z.size : Int) := by rw [hl]
  go_enter Tryd.func12, Tryd.ntmps12
  go_wp2_with fail
  go_loopw [5] (fun vi wr => ∃ (i k : Nat), i ≤ l.length ∧ vi = .int .i64 i ∧ wr = w.drewN k) (fun vi _ => l.length - (intOf vi).toNat)
  case atStart => exact ⟨0, 0, by omega, rfl, rfl⟩
  case round =>
    obtain ⟨i, k, hi, rfl, rfl⟩ := hrel
    by_cases hlt : i < l.length
    · have hlt' : (i : Int) < (l.length : Int) := by omega
      have hltz : (i : Int) < (z.size : Int) := by omega
      have hc := HC.out i hlt
      rw [Nat.zero_add] at hc
      have hz := HZ.out i (by omega)
      rw [← hz] at hc
      go_wp2_with fail
      go_quiet (fail)
      go_wp2_with fail
      go_roundw
      case rel => exact ⟨i + 1, _, by omega, by go_num, rfl⟩
      case measure => simp [intOf]; omega
    · have hlt' : ¬ (i : Int) < (l.length : Int) := by omega
      go_wp2_with fail
      go_ret
      exact ⟨rfl, _, rfl⟩
end Go.Proofs.YtpniflbleihdoaaDoor.Ascii
