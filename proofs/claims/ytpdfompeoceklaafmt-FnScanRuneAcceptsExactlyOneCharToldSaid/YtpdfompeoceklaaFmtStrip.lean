/-
  Proved: StripCR by contract: the bytes without carriage returns (in a comment one before a closing slash may stay).
  Conditions: at most two million bytes.
-/
import Derived.Test.YtpdfompeoceklaaFmtLit
import Derived.IntWalk
import Derived.Lib.LazyBuf
namespace Go.Proofs.YtpdfompeoceklaaFmt.Core
open Go.ChangeShapes Go.WideShapes Go.ChangeAt Go.RowKit
set_option linter.unusedVariables false

def keepCR (bs : List UInt8) (cm : Bool) (acc : List UInt8) (j : Nat) : Bool := decide (bt bs j ≠ 13) || (cm && (decide (2 < acc.length) && (decide (bt acc (acc.length - 1) = 42) && (decide (j + 1 < bs.length) && decide (bt bs (j + 1) = 47)))))
/-- What is kept of the first j bytes. -/
def stripL (bs : List UInt8) (cm : Bool) : Nat → List UInt8
  | 0 => []
  | j + 1 => if keepCR bs cm (stripL bs cm j) j then stripL bs cm j ++ [bs.getD j 0] else stripL bs cm j
theorem stripL_len (bs : List UInt8) (cm : Bool) : ∀ j, (stripL bs cm j).length ≤ j
  | 0 => Nat.le_refl _
  | j + 1 => by
    have := stripL_len bs cm j
    unfold stripL
    split
    · rw [List.length_append, List.length_singleton]; omega
    · omega
theorem stripL_plain (bs : List UInt8) : ∀ j, j ≤ bs.length → stripL bs false j = (bs.take j).filter (fun b => b.toNat != 13)
  | 0, _ => rfl
  | j + 1, h => by
    have ih := stripL_plain bs j (by omega)
    have hg : bs.getD j 0 = bs[j]'h := by rw [List.getD_eq_getElem?_getD, List.getElem?_eq_getElem h, Option.getD_some]
    have hk : keepCR bs false (stripL bs false j) j = ((bs[j]'h).toNat != 13) := by
      unfold keepCR bt
      rw [hg]
      by_cases e : (bs[j]'h).toNat = 13 <;> simp [e]
    rw [List.take_succ_eq_append_getElem h, List.filter_append, ← ih]
    show (if keepCR bs false (stripL bs false j) j then _ else _) = _
    rw [hk, hg, List.filter_cons, List.filter_nil]
    split <;> simp
theorem bt_snoc_old {acc : List UInt8} {x : UInt8} {k : Nat} (h : k < acc.length) : bt (acc ++ [x]) k = bt acc k := by
  unfold bt
  rw [List.getD_eq_getElem?_getD, List.getD_eq_getElem?_getD, List.getElem?_append_left h]
theorem bt_snoc_new {acc : List UInt8} {x : UInt8} : bt (acc ++ [x]) acc.length = x.toNat := by
  unfold bt
  rw [List.getD_eq_getElem?_getD, List.getElem?_append_right (Nat.le_refl _)]
  simp
/-- The new row while it is written. -/
def Strip (w wr : World) (bs : List UInt8) (cm : Bool) (j : Nat) : Prop :=
  ∃ cs : Array Value, Hold wr w.heap.size 5 cs ∧ cs.size = bs.length ∧ (∀ k, k < (stripL bs cm j).length → cs[k]? = some (.int .u8 (bt (stripL bs cm j) k))) ∧ Only w wr []
section
variable {w wr : World} {bs : List UInt8} {cm : Bool} {j : Nat}
theorem Strip.start (w : World) (bs : List UInt8) (cm : Bool) (z : Value) : Strip w (w.alloc (.cells (madeCells #[z] bs.length) 5)) bs cm 0 :=
  ⟨_, Hold.fresh w _ _, by simp [madeCells], fun k hk => absurd hk (by simp [stripL]), (Only.refl w []).fresh _⟩
theorem Strip.keep (h : Strip w wr bs cm j) (hj : j < bs.length) (hk : keepCR bs cm (stripL bs cm j) j = true) : Strip w (wr.setCell ⟨w.heap.size, (stripL bs cm j).length, none⟩ (.int .u8 (bt bs j))) bs cm (j + 1) ∧ (stripL bs cm (j + 1)).length = (stripL bs cm j).length + 1 := by
  obtain ⟨cs, h1, h2, h3, h4⟩ := h
  have hl := stripL_len bs cm j
  have e : stripL bs cm (j + 1) = stripL bs cm j ++ [bs.getD j 0] := by
    show (if _ then _ else _) = _
    rw [if_pos hk]
  rw [e]
  refine ⟨⟨_, h1.put _ _, by simp [h2], fun k hk' => ?_, h4.put (.inr (Nat.le_refl _)) _⟩, by rw [List.length_append, List.length_singleton]⟩
  rw [e] at hk' ⊢
  rw [List.length_append, List.length_singleton] at hk'
  by_cases ek : k = (stripL bs cm j).length
  · subst ek
    rw [Array.getElem?_setIfInBounds_self, if_pos (by omega), bt_snoc_new]
    rfl
  · rw [Array.getElem?_setIfInBounds_ne (by omega), h3 k (by omega), bt_snoc_old (by omega)]
theorem Strip.drop (h : Strip w wr bs cm j) (hk : keepCR bs cm (stripL bs cm j) j = false) : Strip w wr bs cm (j + 1) ∧ stripL bs cm (j + 1) = stripL bs cm j := by
  have e : stripL bs cm (j + 1) = stripL bs cm j := by
    show (if _ then _ else _) = _
    rw [hk]
    rfl
  unfold Strip
  rw [e]
  exact ⟨h, rfl⟩
theorem Strip.only (h : Strip w wr bs cm j) : Only w wr [] := by obtain ⟨_, _, _, _, h⟩ := h; exact h
theorem Strip.cell (h : Strip w wr bs cm j) {k : Nat} (hk : k < (stripL bs cm j).length) : wr.cell? ⟨w.heap.size, k, none⟩ = some (.int .u8 (bt (stripL bs cm j) k)) := by
  obtain ⟨cs, h1, _, h3, _⟩ := h
  rw [h1.cell]
  exact h3 k hk
theorem Strip.any (h : Strip w wr bs cm j) {k : Nat} (hk : k < bs.length) : ∃ v, wr.cell? ⟨w.heap.size, k, none⟩ = some v := by
  obtain ⟨cs, h1, h2, _⟩ := h
  rw [h1.cell]
  exact ⟨_, Array.getElem?_eq_getElem (by omega)⟩
theorem Strip.free (h : Strip w wr bs cm j) (k : Nat) : wr.frozen? ⟨w.heap.size, k, none⟩ = false := by
  obtain ⟨cs, h1, _⟩ := h
  exact h1.free k
end
/-- What StripCR leaves. -/
def Stripped (w : World) (bs : List UInt8) (cm : Bool) (e : Ending) (w' : World) : Prop :=
  e = .returned (.slice (some ⟨w.heap.size, 0, none⟩) (stripL bs cm bs.length).length bs.length) ∧ Only w w' [] ∧ ∀ k, k < (stripL bs cm bs.length).length → w'.cell? ⟨w.heap.size, 0 + k, none⟩ = some (.int .u8 (bt (stripL bs cm bs.length) k))
set_option maxHeartbeats 4000000 in
theorem strip_any (b o cap : Nat) (bs : List UInt8) (cm : Bool) (w : World) (hc : ∀ j, j < bs.length → w.cell? ⟨b, o + j, none⟩ = some (.int .u8 (bt bs j))) (hn : bs.length ≤ 2000000) :
    Calls Tryf.prog 46 #[.slice (some ⟨b, o, none⟩) bs.length cap, .bool cm] w (Stripped w bs cm) := by
  have hmk := run_make_row' (P := Tryf.prog) 22 5 (.int .u8 0) 1 Tryf.underlying22 byteInfo rfl .i64 .i64 bs.length (by omega) (by omega)
  have HC := Lib.hid hc
  clear hc
  go_enter Tryf.func46, Tryf.ntmps46
  go_wp2_with fail
  clear hmk
  go_loopw [6, 7, 8, 14] (fun vi _ _ vj wr => ∃ j : Nat, j ≤ bs.length ∧ vj = .int .i64 j ∧ vi = .int .i64 (stripL bs cm j).length ∧ Hid (Strip w wr bs cm j)) (fun _ _ _ vj _ => bs.length - (intOf vj).toNat)
  case atStart => exact ⟨0, by omega, rfl, rfl, Lib.hid (Strip.start w bs cm _)⟩
  case round =>
    obtain ⟨j, hj, rfl, rfl, HS⟩ := hrel
    have hl := stripL_len bs cm j
    by_cases hlt : j < bs.length
    · have hlt' : (j : Int) < (bs.length : Int) := by omega
      have cj := HS.out.only.cell (HC.out j hlt) (by simp)
      have hil : ((stripL bs cm j).length : Int) < (bs.length : Int) := by omega
      have hfr := HS.out.free (stripL bs cm j).length
      obtain ⟨v, hv⟩ := HS.out.any (k := (stripL bs cm j).length) (by omega)
      by_cases k1 : bt bs j = 13
      · have t1 : (((bt bs j : Nat) : Int) != 13) = false := by simp; omega
        cases cm with
        | false =>
          have hk : keepCR bs false (stripL bs false j) j = false := by unfold keepCR; simp [k1]
          obtain ⟨hS2, e2⟩ := HS.out.drop hk
          have HS2 := Lib.hid hS2
          have E2 := Lib.hid e2
          clear hS2 e2 hk k1
          go_wp2_with fail
          go_roundw
          case rel => exact ⟨j + 1, by omega, by go_num, by rw [E2.out], HS2⟩
          case measure => simp [intOf]; omega
        | true =>
          by_cases k2 : 2 < (stripL bs true j).length
          · have t2 : decide ((2 : Int) < ((stripL bs true j).length : Int)) = true := decide_eq_true (by omega)
            have cp := HS.out.cell (k := (stripL bs true j).length - 1) (by omega)
            have hi1 : (((stripL bs true j).length : Int) - 1).toNat = (stripL bs true j).length - 1 := by omega
            have hi2 : (1 : Int) ≤ ((stripL bs true j).length : Int) := by omega
            by_cases k3 : bt (stripL bs true j) ((stripL bs true j).length - 1) = 42
            · have t3 : (((bt (stripL bs true j) ((stripL bs true j).length - 1) : Nat) : Int) == 42) = true := by rw [beq_iff_eq]; omega
              by_cases k4 : j + 1 < bs.length
              · have t4 : (j : Int) + 1 < (bs.length : Int) := by omega
                have cq := HS.out.only.cell (HC.out (j + 1) k4) (by simp)
                by_cases k5 : bt bs (j + 1) = 47
                · have t5 : (((bt bs (j + 1) : Nat) : Int) == 47) = true := by rw [beq_iff_eq]; omega
                  have hk : keepCR bs true (stripL bs true j) j = true := by unfold keepCR; simp [k1, k2, k3, k4, k5]
                  obtain ⟨hS2, e2⟩ := HS.out.keep hlt hk
                  have HS2 := Lib.hid hS2
                  have E2 := Lib.hid e2
                  clear hS2 e2 hk k1 k3 k5
                  go_wp2_with fail
                  go_roundw
                  case rel => exact ⟨j + 1, by omega, by go_num, by rw [E2.out]; go_num, HS2⟩
                  case measure => simp [intOf]; omega
                · have t5 : (((bt bs (j + 1) : Nat) : Int) == 47) = false := by rw [beq_eq_false_iff_ne]; omega
                  have hk : keepCR bs true (stripL bs true j) j = false := by unfold keepCR; simp [k1, k5]
                  obtain ⟨hS2, e2⟩ := HS.out.drop hk
                  have HS2 := Lib.hid hS2
                  have E2 := Lib.hid e2
                  clear hS2 e2 hk k1 k3 k5
                  go_wp2_with fail
                  go_roundw
                  case rel => exact ⟨j + 1, by omega, by go_num, by rw [E2.out], HS2⟩
                  case measure => simp [intOf]; omega
              · have t4 : decide ((j : Int) + 1 < (bs.length : Int)) = false := decide_eq_false (by omega)
                have hk : keepCR bs true (stripL bs true j) j = false := by unfold keepCR; simp [k1, k4]
                obtain ⟨hS2, e2⟩ := HS.out.drop hk
                have HS2 := Lib.hid hS2
                have E2 := Lib.hid e2
                clear hS2 e2 hk k1 k3
                go_wp2_with fail
                go_roundw
                case rel => exact ⟨j + 1, by omega, by go_num, by rw [E2.out], HS2⟩
                case measure => simp [intOf]; omega
            · have t3 : (((bt (stripL bs true j) ((stripL bs true j).length - 1) : Nat) : Int) == 42) = false := by rw [beq_eq_false_iff_ne]; omega
              have hk : keepCR bs true (stripL bs true j) j = false := by unfold keepCR; simp [k1, k3]
              obtain ⟨hS2, e2⟩ := HS.out.drop hk
              have HS2 := Lib.hid hS2
              have E2 := Lib.hid e2
              clear hS2 e2 hk k1 k3
              go_wp2_with fail
              go_roundw
              case rel => exact ⟨j + 1, by omega, by go_num, by rw [E2.out], HS2⟩
              case measure => simp [intOf]; omega
          · have t2 : decide ((2 : Int) < ((stripL bs true j).length : Int)) = false := decide_eq_false (by omega)
            have hk : keepCR bs true (stripL bs true j) j = false := by unfold keepCR; simp [k1, k2]
            obtain ⟨hS2, e2⟩ := HS.out.drop hk
            have HS2 := Lib.hid hS2
            have E2 := Lib.hid e2
            clear hS2 e2 hk k1
            go_wp2_with fail
            go_roundw
            case rel => exact ⟨j + 1, by omega, by go_num, by rw [E2.out], HS2⟩
            case measure => simp [intOf]; omega
      · have t1 : (((bt bs j : Nat) : Int) != 13) = true := by simp; omega
        have hk : keepCR bs cm (stripL bs cm j) j = true := by unfold keepCR; simp [k1]
        obtain ⟨hS2, e2⟩ := HS.out.keep hlt hk
        have HS2 := Lib.hid hS2
        have E2 := Lib.hid e2
        clear hS2 e2 hk k1
        go_wp2_with fail
        go_roundw
        case rel => exact ⟨j + 1, by omega, by go_num, by rw [E2.out]; go_num, HS2⟩
        case measure => simp [intOf]; omega
    · have hlt' : ¬ (j : Int) < (bs.length : Int) := by omega
      have hje : j = bs.length := by omega
      subst hje
      have g1 : (0 : Int) ≤ ((stripL bs cm bs.length).length : Int) := by omega
      have g2 : ((stripL bs cm bs.length).length : Int) ≤ (bs.length : Int) := by omega
      go_wp2_with fail
      go_ret
      exact ⟨rfl, HS.out.only, fun k hk => by rw [Nat.zero_add]; exact HS.out.cell hk⟩
end Go.Proofs.YtpdfompeoceklaaFmt.Core
