/-
  Proved: zzEqual, zzIsPrefix, zzCount, the formatter's maker and (*formatter).truncate, by contract.
  Conditions: the library's UTF-8 tables hold what the row lists.
-/
import Derived.Test.YtpniflbleihdoaaDoorTWidth
import Derived.Test.YtpniflbleihdoaaDoorTClone
import Derived.Test.YtpniflbleihdoaaDoorShelf7
import Derived.Deep.QuietTactic
import Derived.BigQuiet
import Derived.Deep.LoopGhost
namespace Go.Proofs.YtpniflbleihdoaaDoor.Core
open Go.ChangeShapes Go.WideShapes Go.ChangeAt Go.RowKit
set_option linter.unusedVariables false

theorem get_drop (bs : List UInt8) (i j : Nat) : ((⟨(bs.drop i).toArray⟩ : ByteArray).get! j).toNat = bt bs (i + j) := by
  unfold bt
  show ((bs.drop i).toArray[j]!).toNat = _
  simp [List.getElem?_drop]
  rfl
theorem decodeGo_drop (bs : List UInt8) {i : Nat} (h : i < bs.length) : Lib.decodeGo ⟨(bs.drop i).toArray⟩ = dec bs i := by
  have hs : (⟨(bs.drop i).toArray⟩ : ByteArray).size = bs.length - i := by
    show (bs.drop i).toArray.size = _
    simp
  unfold Lib.decodeGo
  rw [if_neg (by rw [hs]; omega), Lib.decode_at, hs, get_drop, get_drop, get_drop, get_drop]
  rfl

/-- zzEqual at equal texts. -/
theorem equal_same (A B : Option Addr) (ca cb : Nat) (bs : List UInt8) (w : World) (ha : Src w A ca bs) (hb : Src w B cb bs) (hn : bs.length ≤ 2000000) :
    Calls Tryd.prog 35 #[.slice A bs.length ca, .slice B bs.length cb] w fun e w' => e = .returned (.bool true) ∧ ∃ k, w' = w.drewN k := by
  have HA := Lib.hid ha
  have HB := Lib.hid hb
  clear ha hb
  have e0 : ((bs.length : Int) != (bs.length : Int)) = false := by simp
  go_enter Tryd.func35, Tryd.ntmps35
  go_wp2_with fail
  go_loopw [5] (fun vi wr => ∃ (i k : Nat), i ≤ bs.length ∧ vi = .int .i64 i ∧ wr = w.drewN k) (fun vi _ => bs.length - (intOf vi).toNat)
  case atStart => exact ⟨0, 0, by omega, rfl, rfl⟩
  case round =>
    obtain ⟨i, k, hi, rfl, rfl⟩ := hrel
    by_cases hlt : i < bs.length
    · have hlt' : (i : Int) < (bs.length : Int) := by omega
      obtain ⟨b1, o1, rfl, c1⟩ := HA.out.2.2 (by omega)
      obtain ⟨b2, o2, rfl, c2⟩ := HB.out.2.2 (by omega)
      have d1 := c1 i hlt
      have d2 := c2 i hlt
      clear c1 c2
      have e1 : (((bt bs i : Nat) : Int) != ((bt bs i : Nat) : Int)) = false := by simp
      go_wp2_with fail
      go_quiet (fail)
      go_wp2_with fail
      go_roundw
      case rel => exact ⟨i + 1, _, by omega, by go_num, rfl⟩
      case measure => simp [intOf]; omega
    · have hlt' : ¬ (i : Int) < (bs.length : Int) := by omega
      go_wp2_with fail
      go_ret
      exact ⟨rfl, _, rfl⟩

/-- zzCount. -/
theorem count_any (A : Option Addr) (cap : Nat) (bs : List UInt8) (w : World) (hs : Src w A cap bs) (hn : bs.length ≤ 2000000) :
    Calls Tryd.prog 37 #[.slice A bs.length cap] w fun e w' => e = .returned (.int .i64 (count bs 0)) ∧ w = w' := by
  have HS := Lib.hid hs
  clear hs
  go_enter Tryd.func37, Tryd.ntmps37
  go_wp2_with fail
  go_loopw [3, 4] (fun vn vi wr => ∃ i n : Nat, i ≤ bs.length ∧ n ≤ i ∧ vi = .int .i64 i ∧ vn = .int .i64 n ∧ w = wr ∧ Hid (count bs 0 = n + count bs i)) (fun _ vi _ => bs.length - (intOf vi).toNat)
  case atStart => exact ⟨0, 0, by omega, by omega, rfl, rfl, rfl, Lib.hid (by omega)⟩
  case round =>
    obtain ⟨i, n, hi, hni, rfl, rfl, rfl, HC⟩ := hrel
    by_cases hlt : i < bs.length
    · have hlt' : (i : Int) < (bs.length : Int) := by omega
      obtain ⟨b, o, rfl, c⟩ := HS.out.2.2 (by omega)
      have W := Lib.hid (width_any b o cap bs i w hlt hn c)
      have hw := dec_width bs hlt
      have hs := count_step hlt
      have HCs := Lib.hid hs
      clear hs c
      go_wp2_with (go_at_call 48; refine W.out.mono ?_; rintro e w1 ⟨rfl, rfl⟩)
      go_roundw
      case rel => exact ⟨i + (dec bs i).2, n + 1, by omega, by omega, by go_num, by go_num, by trivial, Lib.hid (by have := HC.out; have := HCs.out; omega)⟩
      case measure => simp [intOf]; omega
    · have hlt' : ¬ (i : Int) < (bs.length : Int) := by omega
      have h0 : Hid (count bs 0 = n) := Lib.hid (by have h1 := HC.out; have h2 := count_end (bs := bs) (p := i) (by omega); omega)
      go_wp2_with fail
      go_ret
      exact ⟨by rw [h0.out]; rfl, rfl⟩

theorem fresh2 (w : World) (o : Obj) (t : TypeId) (cs : Array Value) : Hold ((w.alloc o).alloc (.cells cs t)) (w.heap.size + 1) t cs := by
  have := Hold.fresh (w.alloc o) t cs
  simpa using this
theorem offs_from {bs : List UInt8} {i k : Nat} (h : i = offs bs k) (hl : i < bs.length) : offs bs (k + 1) = i + (dec bs i).2 := by
  subst h
  exact offs_step hl
/-- The maker. -/
theorem fmt_any (p : Int) (pp : Bool) (w : World) :
    Calls Tryd.prog 33 #[.int .i64 0, .bool false, .int .i64 p, .bool pp, .bool false, .bool false, .bool false, .bool false, .bool false] w fun e w' =>
      ∃ f, e = .returned (.pointer (some ⟨f, 0, none⟩)) ∧ w'.cell? ⟨f, 2, none⟩ = some (.bool pp) ∧ w'.cell? ⟨f, 14, none⟩ = some (.int .i64 p) ∧ Below w.heap.size w w' := by
  go_enter Tryd.func33, Tryd.ntmps33
  go_wp2_with (first | (go_at_call 46; go_in) | (go_at_call 53; go_in))
  go_ret
  refine ⟨w.heap.size + 1, rfl, ?_, ?_, ((Below.refl _ _).alloc (Nat.le_refl _) _).alloc (by simp) _⟩
  · exact (fresh2 w _ _ _).cellAt (by kernel_rfl)
  · exact (fresh2 w _ _ _).cellAt (by kernel_rfl)

/-- truncate without a precision. -/
theorem trunc_all (f : Nat) (A : Option Addr) (n cap : Nat) (w : World) (h2 : w.cell? ⟨f, 2, none⟩ = some (.bool false)) :
    Calls Tryd.prog 47 #[.pointer (some ⟨f, 0, none⟩), .slice A n cap] w fun e w' => e = .returned (.slice A n cap) ∧ w = w' := by
  go_enter Tryd.func47, Tryd.ntmps47
  go_wp2_with fail
  go_ret
  exact ⟨rfl, rfl⟩
/-- What truncate leaves at the precision p: a prefix of k characters. -/
def Cut (w : World) (A : Option Addr) (cap : Nat) (bs : List UInt8) (p : Int) (e : Ending) (w' : World) : Prop :=
  ∃ k q : Nat, e = .returned (.slice A q cap) ∧ q = offs bs k ∧ Reach bs k ∧ ((k : Int) ≤ p ∨ k = 0) ∧ (q = bs.length ∨ (q < bs.length ∧ p ≤ (k : Int))) ∧ Below w.heap.size w w'
abbrev Tabs (w : World) : Prop := Lib.Utf8Tabs 3 4 w
theorem Tabs.lt {w : World} (h : Tabs w) : 3 < w.heap.size ∧ 4 < w.heap.size :=
  ⟨World.block_lt_of_cell? w _ (h.1 0 (by omega)), World.block_lt_of_cell? w _ (h.2 0 (by omega)).1⟩
theorem Tabs.below {w w' : World} (h : Tabs w) (hb : Below w.heap.size w w') : Tabs w' := by
  refine ⟨fun i hi => ?_, fun i hi => ⟨?_, ?_⟩⟩
  · have := h.1 i hi; exact (hb.cell (World.block_lt_of_cell? w _ this)).trans this
  · have := (h.2 i hi).1; exact (hb.cell (World.block_lt_of_cell? w _ this)).trans this
  · have := (h.2 i hi).2; exact (hb.cell (World.block_lt_of_cell? w _ this)).trans this

set_option maxHeartbeats 2000000 in
theorem trunc_any (f : Nat) (A : Option Addr) (cap : Nat) (bs : List UInt8) (p : Int) (w : World) (h2 : w.cell? ⟨f, 2, none⟩ = some (.bool true)) (h14 : w.cell? ⟨f, 14, none⟩ = some (.int .i64 p))
    (hs : Src w A cap bs) (hn : bs.length ≤ 65536) (hp0 : -65536 ≤ p) (hp1 : p ≤ 9223372036854775807) (hT : Tabs w) :
    Calls Tryd.prog 47 #[.pointer (some ⟨f, 0, none⟩), .slice A bs.length cap] w (Cut w A cap bs p) := by
  have HS := Lib.hid hs
  have HT := Lib.hid hT
  clear hs hT
  go_enter Tryd.func47, Tryd.ntmps47
  go_wp2_with fail
  go_loopw [5, 6] (fun vn vi wr => ∃ (k i : Nat), i ≤ bs.length ∧ k ≤ i ∧ vi = .int .i64 i ∧ vn = .int .i64 (p - k) ∧ Hid (i = offs bs k) ∧ Hid (Reach bs k) ∧ ((k : Int) ≤ p ∨ k = 0) ∧ Hid (Below w.heap.size w wr)) (fun _ vi _ => bs.length - (intOf vi).toNat)
  case atStart => exact ⟨0, 0, by omega, by omega, rfl, by go_num, Lib.hid rfl, Lib.hid (.inl rfl), .inr rfl, Lib.hid (Below.refl _ _)⟩
  case round =>
    obtain ⟨k, i, hi, hki, rfl, rfl, HI, HR, hkp, HB⟩ := hrel
    by_cases hlt : i < bs.length
    · have hlt' : (i : Int) < (bs.length : Int) := by omega
      obtain ⟨b, o, rfl, c⟩ := HS.out.2.2 (by omega)
      have hcap := HS.out.1
      have hcap2 := HS.out.2.1
      unfold maxLen at hcap2
      by_cases hkp2 : p ≤ (k : Int)
      · have g1 : (i : Int) ≤ (cap : Int) := by omega
        go_wp2_with fail
        go_ret
        exact ⟨k, i, rfl, HI.out, HR.out, hkp, .inr ⟨hlt, hkp2⟩, HB.out⟩
      · have C := Lib.hid c
        have hci := (HB.out.cell (World.block_lt_of_cell? w _ (c i hlt))).trans (c i hlt)
        clear c
        have hw := dec_width bs hlt
        have hst : Hid (offs bs (k + 1) = i + (dec bs i).2) := Lib.hid (offs_from HI.out hlt)
        have hre : Hid (Reach bs (k + 1)) := Lib.hid (.inr (by have := HI.out; simp; omega))
        by_cases ha : bt bs i < 128
        · have e1 : (dec bs i).2 = 1 := by rw [dec_ascii bs ha]
          rw [e1] at hst
          have d : decide ((128 : Int) ≤ ((bt bs i : Nat) : Int)) = false := decide_eq_false (by omega)
          go_wp2_with fail
          go_roundw
          case rel => exact ⟨k + 1, i + 1, by omega, by omega, by go_num, by go_num, Lib.hid hst.out.symm, hre, by omega, HB⟩
          case measure => simp [intOf]; omega
        · have d : decide ((128 : Int) ≤ ((bt bs i : Nat) : Int)) = true := decide_eq_true (by omega)
          have CD : Hid (Calls Tryd.prog 54 #[.slice (some ⟨b, o + i, none⟩) (bs.length - i) (cap - i)] wr fun e w' => e = .returned (.tuple #[.int .i32 (dec bs i).1, .int .i64 (dec bs i).2]) ∧ Below wr.heap.size wr w') := by
            apply Lib.hid
            have hs : (⟨(bs.drop i).toArray⟩ : ByteArray).size = bs.length - i := by
              show (bs.drop i).toArray.size = _
              simp
            have c := Tryd.utf8_DecodeRune ⟨(bs.drop i).toArray⟩ b (o + i) (cap - i) wr (HT.out.below HB.out) (fun j hj => by
              rw [get_drop, Nat.add_assoc]
              have hc := C.out (i + j) (by rw [hs] at hj; omega)
              exact (HB.out.cell (World.block_lt_of_cell? w _ hc)).trans hc)
            rw [hs, decodeGo_drop bs hlt] at c
            exact c
          have g1 : (i : Int) ≤ (cap : Int) := by omega
          have g3 : ¬ cap = i := by omega
          go_wp2_with (go_at_call 54; refine CD.out.mono ?_; rintro e w1 ⟨rfl, hb1⟩)
          have HB1 := Lib.hid (HB.out.trans (hb1.mono HB.out.size))
          clear hb1
          go_roundw
          case rel => exact ⟨k + 1, i + (dec bs i).2, by omega, by omega, by go_num, by go_num, Lib.hid hst.out.symm, hre, by omega, HB1⟩
          case measure => simp [intOf]; omega
    · have hlt' : ¬ (i : Int) < (bs.length : Int) := by omega
      go_wp2_with fail
      go_ret
      have : i = bs.length := by omega
      exact ⟨k, bs.length, rfl, by rw [← this]; exact HI.out, HR.out, hkp, .inl rfl, HB.out⟩
end Go.Proofs.YtpniflbleihdoaaDoor.Core
