/-
  Proved: n002_106's zzItoa gives some text of at most 24 bytes.
  Conditions: a number of at most 99999.
-/
import Derived.Test.YtpniflbleihdoaaGreatCnt
import Derived.Laws.IdiomStrings
namespace Go.Proofs.YtpniflbleihdoaaGreat.Core
open Go.ChangeShapes Go.WideShapes Go.ChangeAt Go.RowKit
set_option linter.unusedVariables false

def Text (w : World) (e : Ending) (w' : World) : Prop := ∃ s : ByteArray, e = .returned (.string s) ∧ s.size ≤ 24 ∧ Below w.heap.size w w'
/-- The 24 bytes of the buffer, the first new block. -/
def Buf (w wr : World) : Prop := ∃ l : List UInt8, l.length = 24 ∧ Hold wr w.heap.size 70 (l.map fun b => Value.int .u8 b.toNat).toArray ∧ Only w wr []
theorem Buf.start (w : World) : Buf w (w.alloc (.cells #[.int .u8 0, .int .u8 0, .int .u8 0, .int .u8 0, .int .u8 0, .int .u8 0, .int .u8 0, .int .u8 0, .int .u8 0, .int .u8 0, .int .u8 0, .int .u8 0, .int .u8 0, .int .u8 0, .int .u8 0, .int .u8 0, .int .u8 0, .int .u8 0, .int .u8 0, .int .u8 0, .int .u8 0, .int .u8 0, .int .u8 0, .int .u8 0] 70)) := ⟨List.replicate 24 0, rfl, Hold.fresh w _ _, (Only.refl w []).fresh _⟩
theorem Buf.put {w wr : World} (h : Buf w wr) (j : Nat) {y : Int} (h0 : 0 ≤ y) (h1 : y < 256) : Buf w (wr.setCell ⟨w.heap.size, j, none⟩ (.int .u8 y)) := by
  obtain ⟨l, hl, hh, ho⟩ := h
  refine ⟨l.set j (UInt8.ofNat y.toNat), by simp [hl], ?_, ho.put (.inr (Nat.le_refl _)) _⟩
  have e : (UInt8.ofNat y.toNat).toNat = y.toNat := by simp; omega
  have e2 : ((l.set j (UInt8.ofNat y.toNat)).map fun b => Value.int .u8 b.toNat).toArray = ((l.map fun b => Value.int .u8 b.toNat).toArray).setIfInBounds j (.int .u8 y) := by
    rw [List.map_set, e, show ((y.toNat : Nat) : Int) = y by omega]
    simp
  rw [e2]
  exact hh.put j _
theorem Buf.cell {w wr : World} (h : Buf w wr) {j : Nat} (hj : j < 24) : ∃ v, wr.cell? ⟨w.heap.size, j, none⟩ = some v := by
  obtain ⟨l, hl, hh, ho⟩ := h
  rw [hh.cell]
  exact ⟨_, Array.getElem?_eq_getElem (by simp [hl]; omega)⟩
theorem Buf.free {w wr : World} (h : Buf w wr) (j : Nat) : wr.frozen? ⟨w.heap.size, j, none⟩ = false := by obtain ⟨l, hl, hh, ho⟩ := h; exact hh.free j
theorem Buf.below {w wr : World} (h : Buf w wr) : Below w.heap.size w wr := by obtain ⟨l, hl, hh, ho⟩ := h; exact ho.below (Nat.le_refl _) (by simp)
theorem Buf.conv {w wr : World} (h : Buf w wr) (i n cap : Nat) (hn : n = 24 - i) : ∃ s : ByteArray, s.size ≤ 24 ∧ (convert 22 9 (.slice (some ⟨w.heap.size, i, none⟩) n cap)).run Tryz.prog wr = .ok (.string s) wr := by
  obtain ⟨l, hl, hh, ho⟩ := h
  subst hn
  have hd : (l.drop i).length = 24 - i := by rw [List.length_drop, hl]
  refine ⟨⟨(l.drop i).toArray⟩, by show (l.drop i).toArray.size ≤ 24; simp; omega, ?_⟩
  rw [← hd]
  refine run_convert_bytes_back wr 22 9 5 ⟨w.heap.size, i, none⟩ cap (l.drop i) Tryz.underlying22 Tryz.underlying5 Tryz.underlying9 (fun j hj => ?_)
  rw [Addr.add_lit, hh.cell]
  simp [List.getElem?_drop, List.getElem_drop]
  have : i + j < l.length := by rw [List.length_drop] at hj; omega
  exact ⟨_, List.getElem?_eq_getElem this, rfl⟩

set_option maxHeartbeats 4000000 in
theorem itoa_any (n : Nat) (w : World) (hn : n ≤ 99999) : Calls Tryz.prog 9 #[.int .i64 n] w (Text w) := by
  by_cases h0 : n = 0
  · subst h0
    go_enter Tryz.func9, Tryz.ntmps9
    go_wp2_with fail
    go_ret
    exact ⟨_, rfl, by decide, Below.refl _ _⟩
  · have hp : ¬ ((n : Nat) : Int) ≤ 0 := by omega
    have d : decide ((n : Int) ≤ 0) = false := decide_eq_false hp
    go_enter Tryz.func9, Tryz.ntmps9
    go_wp2_with fail
    go_loopw [0, 4] (fun vx vi wr => ∃ x i : Nat, vx = .int .i64 x ∧ vi = .int .i64 i ∧ (0 < x ∨ i ≤ 23) ∧ ((i = 24 ∧ x ≤ 99999) ∨ (i = 23 ∧ x ≤ 9999) ∨ (i = 22 ∧ x ≤ 999) ∨ (i = 21 ∧ x ≤ 99) ∨ (i = 20 ∧ x ≤ 9) ∨ (i = 19 ∧ x ≤ 0)) ∧ Hid (Buf w wr)) (fun vx _ _ => (intOf vx).toNat)
    case atStart => exact ⟨n, 24, rfl, rfl, by omega, by omega, Lib.hid (Buf.start w)⟩
    case round =>
      obtain ⟨x, i, rfl, rfl, hxi, hr, HB⟩ := hrel
      by_cases hx : 0 < x
      · have hx' : (0 : Int) < (x : Int) := by omega
        rcases hr with ⟨rfl, hb⟩ | ⟨rfl, hb⟩ | ⟨rfl, hb⟩ | ⟨rfl, hb⟩ | ⟨rfl, hb⟩ | ⟨rfl, hb⟩
        · obtain ⟨cv, hcv⟩ := HB.out.cell (j := 23) (by omega)
          have hfr := HB.out.free 23
          have q1 : (x : Int).tmod 10 = ((x % 10 : Nat) : Int) := by rw [Int.tmod_eq_emod_of_nonneg (by omega)]; omega
          have q2 : (x : Int).tdiv 10 = ((x / 10 : Nat) : Int) := by rw [Int.tdiv_eq_ediv_of_nonneg (by omega)]; omega
          go_wp2_with fail
          go_roundw
          case rel => exact ⟨x / 10, 23, by go_num, rfl, by omega, by omega, Lib.hid (HB.out.put 23 (by omega) (by omega))⟩
          case measure => simp [intOf]; omega
        · obtain ⟨cv, hcv⟩ := HB.out.cell (j := 22) (by omega)
          have hfr := HB.out.free 22
          have q1 : (x : Int).tmod 10 = ((x % 10 : Nat) : Int) := by rw [Int.tmod_eq_emod_of_nonneg (by omega)]; omega
          have q2 : (x : Int).tdiv 10 = ((x / 10 : Nat) : Int) := by rw [Int.tdiv_eq_ediv_of_nonneg (by omega)]; omega
          go_wp2_with fail
          go_roundw
          case rel => exact ⟨x / 10, 22, by go_num, rfl, by omega, by omega, Lib.hid (HB.out.put 22 (by omega) (by omega))⟩
          case measure => simp [intOf]; omega
        · obtain ⟨cv, hcv⟩ := HB.out.cell (j := 21) (by omega)
          have hfr := HB.out.free 21
          have q1 : (x : Int).tmod 10 = ((x % 10 : Nat) : Int) := by rw [Int.tmod_eq_emod_of_nonneg (by omega)]; omega
          have q2 : (x : Int).tdiv 10 = ((x / 10 : Nat) : Int) := by rw [Int.tdiv_eq_ediv_of_nonneg (by omega)]; omega
          go_wp2_with fail
          go_roundw
          case rel => exact ⟨x / 10, 21, by go_num, rfl, by omega, by omega, Lib.hid (HB.out.put 21 (by omega) (by omega))⟩
          case measure => simp [intOf]; omega
        · obtain ⟨cv, hcv⟩ := HB.out.cell (j := 20) (by omega)
          have hfr := HB.out.free 20
          have q1 : (x : Int).tmod 10 = ((x % 10 : Nat) : Int) := by rw [Int.tmod_eq_emod_of_nonneg (by omega)]; omega
          have q2 : (x : Int).tdiv 10 = ((x / 10 : Nat) : Int) := by rw [Int.tdiv_eq_ediv_of_nonneg (by omega)]; omega
          go_wp2_with fail
          go_roundw
          case rel => exact ⟨x / 10, 20, by go_num, rfl, by omega, by omega, Lib.hid (HB.out.put 20 (by omega) (by omega))⟩
          case measure => simp [intOf]; omega
        · obtain ⟨cv, hcv⟩ := HB.out.cell (j := 19) (by omega)
          have hfr := HB.out.free 19
          have q1 : (x : Int).tmod 10 = ((x % 10 : Nat) : Int) := by rw [Int.tmod_eq_emod_of_nonneg (by omega)]; omega
          have q2 : (x : Int).tdiv 10 = ((x / 10 : Nat) : Int) := by rw [Int.tdiv_eq_ediv_of_nonneg (by omega)]; omega
          go_wp2_with fail
          go_roundw
          case rel => exact ⟨x / 10, 19, by go_num, rfl, by omega, by omega, Lib.hid (HB.out.put 19 (by omega) (by omega))⟩
          case measure => simp [intOf]; omega
        · omega
      · have hx' : ¬ (0 : Int) < (x : Int) := by omega
        have hx0 : x = 0 := by omega
        subst hx0
        rcases hr with ⟨rfl, hb⟩ | ⟨rfl, hb⟩ | ⟨rfl, hb⟩ | ⟨rfl, hb⟩ | ⟨rfl, hb⟩ | ⟨rfl, hb⟩
        · omega
        · obtain ⟨s, hs, hcv⟩ := HB.out.conv 23 1 1 rfl
          go_wp2_with fail
          go_ret
          exact ⟨s, rfl, hs, HB.out.below⟩
        · obtain ⟨s, hs, hcv⟩ := HB.out.conv 22 2 2 rfl
          go_wp2_with fail
          go_ret
          exact ⟨s, rfl, hs, HB.out.below⟩
        · obtain ⟨s, hs, hcv⟩ := HB.out.conv 21 3 3 rfl
          go_wp2_with fail
          go_ret
          exact ⟨s, rfl, hs, HB.out.below⟩
        · obtain ⟨s, hs, hcv⟩ := HB.out.conv 20 4 4 rfl
          go_wp2_with fail
          go_ret
          exact ⟨s, rfl, hs, HB.out.below⟩
        · obtain ⟨s, hs, hcv⟩ := HB.out.conv 19 5 5 rfl
          go_wp2_with fail
          go_ret
          exact ⟨s, rfl, hs, HB.out.below⟩
end Go.Proofs.YtpniflbleihdoaaGreat.Core
