/-
  Proved: n002_88's zzb45At gives a scanner that has stepped k times over the string's bytes, and its place.
  Conditions: the library's UTF-8 tables hold what the row lists; at most 2^16 bytes and steps.
-/
import Derived.Test.YtebahaclnbjnoaaFmtSw
import Derived.Test.YtebahaclnbjnoaaFmtMake88
import Derived.Test.YtebahaclnbjnoaaFmtTabs
import Derived.Lib.ConvBytes
import Derived.Laws.AppendOwn
namespace Go.Proofs.YtebahaclnbjnoaaFmt.Sw88
open Go.ChangeShapes Go.WideShapes Go.ChangeAt Go.RowKit Core
set_option linter.unusedVariables false

/-- k steps from the first character. -/
def itr (bs : List UInt8) : Nat → Nat
  | 0 => bom bs
  | k + 1 => nxRd bs (itr bs k)
theorem itr_le (bs : List UInt8) : ∀ k, itr bs k ≤ bs.length
  | 0 => bom_le bs
  | k + 1 => nxRd_le (itr_le bs k)
theorem str_len (s : ByteArray) : s.data.toList.length = s.size := by simp
theorem str_bt (s : ByteArray) (k : Nat) (h : k < s.size) : bt s.data.toList k = s[k].toNat := by
  unfold bt
  rw [List.getD_eq_getElem?_getD, List.getElem?_eq_getElem (by simpa using h), Option.getD_some]
  rfl
theorem conv_below (w : World) (e : TypeId) (s : ByteArray) : Below w.heap.size w (Lib.bytesWorld w e s) :=
  ⟨rfl, rfl, rfl, by rw [Lib.bytesWorld_size]; omega, fun i hi => Lib.bytesWorld_at_old w e s i hi⟩
theorem conv_src (w : World) (e : TypeId) (s : ByteArray) (h : s.size ≤ maxLen) : Src (Lib.bytesWorld w e s) (some ⟨w.heap.size, 0, none⟩) (grownCap w s.size 0 e) s.data.toList := by
  refine ⟨by rw [str_len]; exact grownCap_ge w s.size 0 e, grownCap_le_maxLen w s.size 0 e h, fun _ => ⟨_, _, rfl, fun j hj => ?_⟩⟩
  rw [str_len] at hj
  rw [Nat.zero_add, Lib.bytesWorld_cell w e s j hj]
  rfl
theorem off_any (S : Nat) (p : Int) (w : World) (h : w.cell? ⟨S, 3, none⟩ = some (.int .i64 p)) : Calls Tryf.prog 9 #[.pointer (some ⟨S, 0, none⟩)] w fun e w' => e = .returned (.int .i64 p) ∧ w = w' := by
  go_enter Tryf.func9, Tryf.ntmps9
  go_wp2_with fail
  go_ret
  exact ⟨rfl, rfl⟩
theorem next_door {w0 : Base} {w : World} {S : Nat} {bs : List UInt8} {semi : Bool} {mode : Int} {p : Nat} {errs : Int} (h : Live w0 w S bs semi mode p errs) (h0 : 0 ≤ errs) (h1 : errs < 4611686018427387904) :
    Calls Tryf.prog 15 #[.pointer (some ⟨S, 0, none⟩)] w fun e w' => e = .returned (.tuple #[]) ∧ Live w0 w' S bs semi mode (nxRd bs p) (errs + nxErr bs (nxRd bs p)) := by
  have C := Lib.hid (live_next h h0 h1)
  clear h
  go_enter Tryf.func15, Tryf.ntmps15
  go_wp2_with fail
  refine C.out.mono ?_
  rintro e w1 ⟨rfl, h, _⟩
  go_wp2_with fail
  go_end0
  exact ⟨rfl, h⟩
/-- What zzb45At leaves. -/
def Stood (w : World) (bs : List UInt8) (k : Nat) (e : Ending) (w' : World) : Prop :=
  ∃ S er, e = .returned (.tuple #[.pointer (some ⟨S, 0, none⟩), .int .i64 (itr bs k)]) ∧ Live (Base.new w) w' S bs false 0 (itr bs k) er ∧ 0 ≤ er ∧ er ≤ k + 1
set_option maxHeartbeats 1000000 in
theorem at_any (s : ByteArray) (k : Nat) (w : World) (hs : s.size ≤ 65536) (hk : k ≤ 65536) (hT : Tabs w) :
    Calls Tryf.prog 7 #[.string s, .int .i64 k] w (Stood w s.data.toList k) := by
  have kc := Lib.run_convert_string_bytes (P := Tryf.prog) w 9 33 5 s Tryf.underlying9 Tryf.underlying33 Tryf.underlying5
  have HB := Lib.hid (conv_below w 5 s)
  have HS := Lib.hid (conv_src w 5 s (by unfold maxLen; omega))
  have HT := Lib.hid hT
  clear hT
  go_enter Tryf.func7, Tryf.ntmps7
  go_wp2_with fail
  clear kc
  generalize Lib.bytesWorld w 5 s = w1 at *
  generalize grownCap w s.size 0 5 = cap at *
  have T1 := Lib.hid (HT.out.only (Only.ofBelow HB.out []))
  have M := Lib.hid (P88.made_any (some ⟨w.heap.size, 0, none⟩) cap s.data.toList w.heap.size (by intro a ha; injection ha with ha; subst ha; exact Nat.le_refl _) w1 HS.out (by rw [str_len]; omega) T1.out)
  rw [str_len] at M
  refine M.out.mono ?_
  rintro e w2 ⟨S, rfl, hL⟩
  have HL0 := Lib.hid (hL.since (Only.ofBelow HB.out []) HT.out)
  clear hL M HS T1 HB
  go_wp2_with fail
  go_loopw [7] (fun vi wr => ∃ (i : Nat) (er : Int), i ≤ k ∧ vi = .int .i64 i ∧ Hid (Live (Base.new w) wr S s.data.toList false 0 (itr s.data.toList i) er) ∧ 0 ≤ er ∧ er ≤ i + 1) (fun vi _ => k - (intOf vi).toNat)
  case atStart =>
    have hne := nxErr_le (bs := s.data.toList) (p := bom s.data.toList)
    exact ⟨0, _, by omega, rfl, HL0, by omega, by omega⟩
  case round =>
    obtain ⟨i, er, hi, rfl, HL, e0, e1⟩ := hrel
    by_cases hlt : i < k
    · have hlt' : (i : Int) < (k : Int) := by omega
      have C := Lib.hid (next_door HL.out e0 (by omega))
      have hne := nxErr_le (bs := s.data.toList) (p := nxRd s.data.toList (itr s.data.toList i))
      go_wp2_with fail
      refine C.out.mono ?_
      rintro e w3 ⟨rfl, hL3⟩
      have HL3 := Lib.hid hL3
      clear hL3 C
      go_wp2_with fail
      go_roundw
      case rel => exact ⟨i + 1, _, by omega, by go_num, HL3, by omega, by omega⟩
      case measure => simp [intOf]; omega
    · have hlt' : ¬ (i : Int) < (k : Int) := by omega
      have c3 := HL.out.off
      have : i = k := by omega
      subst this
      go_wp2_with (first | (go_at_call 9; refine (off_any S _ wr c3).mono ?_; rintro e w4 ⟨rfl, rfl⟩))
      go_ret2
      exact ⟨S, er, rfl, HL.out, e0, e1⟩
end Go.Proofs.YtebahaclnbjnoaaFmt.Sw88
