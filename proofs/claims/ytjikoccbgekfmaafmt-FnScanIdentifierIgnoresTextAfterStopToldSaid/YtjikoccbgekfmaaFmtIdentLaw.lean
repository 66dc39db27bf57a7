/-
  Proved: the walk of FnScanIdentifierIgnoresTextAfterStop returns true at every argument.
  Conditions: the library's UTF-8 tables hold what the row lists.
-/
import Derived.Test.YtjikoccbgekfmaaFmtIdent
import Derived.Test.YtjikoccbgekfmaaFmtMake140
import Derived.Test.YtjikoccbgekfmaaFmtClone140
import Derived.Test.YtjikoccbgekfmaaFmtTabs
import Derived.IntWalk
import Derived.Lib.LazyBuf
namespace Go.Proofs.YtjikoccbgekfmaaFmt.IdentLaw
open Go.ChangeShapes Go.WideShapes Go.ChangeAt Go.RowKit Core
set_option linter.unusedVariables false

/-! ### Plain: the run of letters and digits. -/
def idEnd (bs : List UInt8) (p : Nat) : Nat := p + ((bs.drop p).takeWhile fun b => isI b.toNat).length
theorem idEnd_step {bs : List UInt8} {p : Nat} (h : p < bs.length) (hw : isI (bt bs p) = true) : idEnd bs (p + 1) = idEnd bs p := by
  obtain ⟨b, h1, h2⟩ := bt_drop h
  unfold idEnd
  rw [h1, List.takeWhile_cons, if_pos (by rw [← h2]; exact hw), List.length_cons]
  omega
theorem idEnd_stop {bs : List UInt8} {p : Nat} (h : p < bs.length → isI (bt bs p) = false) : idEnd bs p = p := by
  unfold idEnd
  by_cases hp : p < bs.length
  · obtain ⟨b, h1, h2⟩ := bt_drop hp
    rw [h1, List.takeWhile_cons, if_neg (by rw [← h2, h hp]; simp)]
    rfl
  · rw [List.drop_of_length_le (by omega)]
    rfl
theorem idEnd_le {bs : List UInt8} {p : Nat} (h : p ≤ bs.length) : p ≤ idEnd bs p ∧ idEnd bs p ≤ bs.length := by
  have h1 := (List.takeWhile_sublist (p := fun b : UInt8 => isI b.toNat) (l := bs.drop p)).length_le
  rw [List.length_drop] at h1
  unfold idEnd
  omega
theorem idEnd_all {bs : List UInt8} : ∀ {p : Nat}, p ≤ bs.length → (∀ j, p ≤ j → j < idEnd bs p → isI (bt bs j) = true) ∧ (idEnd bs p < bs.length → isI (bt bs (idEnd bs p)) = false)
  | p, h1 => by
    by_cases h : p < bs.length ∧ isI (bt bs p) = true
    · have h2 := idEnd_all (bs := bs) (p := p + 1) (by omega)
      rw [idEnd_step h.1 h.2] at h2
      refine ⟨fun j a b => ?_, h2.2⟩
      by_cases e : j = p
      · subst e; exact h.2
      · exact h2.1 j (by omega) b
    · have hs : p < bs.length → isI (bt bs p) = false := by
        intro hp
        cases hh : isI (bt bs p) with
        | false => rfl
        | true => exact absurd ⟨hp, hh⟩ h
      rw [idEnd_stop hs]
      exact ⟨fun j a b => absurd b (by omega), hs⟩
  termination_by p => bs.length - p
  decreasing_by omega
/-- The other text: the same head, another tail. -/
def other (bs ts : List UInt8) (k : Nat) : List UInt8 := bs.take (k + 1) ++ ts
theorem other_len {bs ts : List UInt8} {k : Nat} (h : k < bs.length) : (other bs ts k).length = k + 1 + ts.length := by
  unfold other
  rw [List.length_append, List.length_take]
  omega
theorem other_head {bs ts : List UInt8} {k j : Nat} (h : k < bs.length) (hj : j ≤ k) : bt (other bs ts k) j = bt bs j := by
  unfold other bt
  rw [List.getD_eq_getElem?_getD, List.getD_eq_getElem?_getD, List.getElem?_append_left (by rw [List.length_take]; omega), List.getElem?_take, if_pos (by omega)]
theorem other_tail {bs ts : List UInt8} {k j : Nat} (h : k < bs.length) : bt (other bs ts k) (k + 1 + j) = bt ts j := by
  have hl : (bs.take (k + 1)).length = k + 1 := by rw [List.length_take]; omega
  unfold other bt
  rw [List.getD_eq_getElem?_getD, List.getD_eq_getElem?_getD, List.getElem?_append_right (by omega), hl, Nat.add_sub_cancel_left]
theorem other_sub {bs ts : List UInt8} {k : Nat} (h : k < bs.length) : sub (other bs ts k) 0 k = sub bs 0 k := by
  unfold sub other
  rw [List.drop_zero, List.drop_zero, List.take_append_of_le_length (by rw [List.length_take]; omega), List.take_take]
  congr 1
  omega

/-! ### The law's own helpers. -/
theorem start_yes (c : Nat) (w : World) (h : isL c = true) : Calls Tryf.prog 6 #[.int .u8 c] w fun e w' => e = .returned (.bool true) ∧ w = w' := by
  have h' : (97 ≤ c ∧ c ≤ 122) ∨ (65 ≤ c ∧ c ≤ 90) ∨ c = 95 := by simpa [isL] using h
  clear h
  rcases h' with h | h | h
  · have d1 : decide ((97 : Int) ≤ (c : Int)) = true := decide_eq_true (by omega)
    have d2 : decide ((c : Int) ≤ 122) = true := decide_eq_true (by omega)
    go_enter Tryf.func6, Tryf.ntmps6
    go_wp2_with fail
    go_ret
    exact ⟨rfl, rfl⟩
  · have d1 : decide ((97 : Int) ≤ (c : Int)) = false := decide_eq_false (by omega)
    have d2 : decide ((65 : Int) ≤ (c : Int)) = true := decide_eq_true (by omega)
    have d3 : decide ((c : Int) ≤ 90) = true := decide_eq_true (by omega)
    go_enter Tryf.func6, Tryf.ntmps6
    go_wp2_with fail
    go_ret
    exact ⟨rfl, rfl⟩
  · subst h
    go_enter Tryf.func6, Tryf.ntmps6
    go_wp2_with fail
    go_ret
    exact ⟨rfl, rfl⟩
theorem start_no (c : Nat) (w : World) (h : isL c = false) : Calls Tryf.prog 6 #[.int .u8 c] w fun e w' => e = .returned (.bool false) ∧ w = w' := by
  have h' : ¬ ((97 ≤ c ∧ c ≤ 122) ∨ (65 ≤ c ∧ c ≤ 90) ∨ c = 95) := by simpa [isL] using h
  clear h
  have d9 : ((c : Int) == 95) = false := by simp; omega
  by_cases h1 : c < 65
  · have d1 : decide ((97 : Int) ≤ (c : Int)) = false := decide_eq_false (by omega)
    have d2 : decide ((65 : Int) ≤ (c : Int)) = false := decide_eq_false (by omega)
    go_enter Tryf.func6, Tryf.ntmps6
    go_wp2_with fail
    go_ret
    exact ⟨rfl, rfl⟩
  · have d2 : decide ((65 : Int) ≤ (c : Int)) = true := decide_eq_true (by omega)
    have d3 : decide ((c : Int) ≤ 90) = false := decide_eq_false (by omega)
    by_cases h2 : c < 97
    · have d1 : decide ((97 : Int) ≤ (c : Int)) = false := decide_eq_false (by omega)
      go_enter Tryf.func6, Tryf.ntmps6
      go_wp2_with fail
      go_ret
      exact ⟨rfl, rfl⟩
    · have d1 : decide ((97 : Int) ≤ (c : Int)) = true := decide_eq_true (by omega)
      have d4 : decide ((c : Int) ≤ 122) = false := decide_eq_false (by omega)
      go_enter Tryf.func6, Tryf.ntmps6
      go_wp2_with fail
      go_ret
      exact ⟨rfl, rfl⟩
theorem part_yes (c : Nat) (w : World) (h : isI c = true) : Calls Tryf.prog 16 #[.int .u8 c] w fun e w' => e = .returned (.bool true) ∧ w = w' := by
  by_cases hl : isL c = true
  · go_enter Tryf.func16, Tryf.ntmps16
    go_wp2_with (first | (go_at_call 6; refine (start_yes _ _ hl).mono ?_; rintro e w1 ⟨rfl, rfl⟩))
    go_ret
    exact ⟨rfl, rfl⟩
  · have hl' : isL c = false := by simpa using hl
    have hd : 48 ≤ c ∧ c ≤ 57 := by simpa [isI, hl', isD] using h
    have d1 : decide ((48 : Int) ≤ (c : Int)) = true := decide_eq_true (by omega)
    have d2 : decide ((c : Int) ≤ 57) = true := decide_eq_true (by omega)
    clear h hl
    have K := Lib.hid (start_no c w hl')
    clear hl'
    go_enter Tryf.func16, Tryf.ntmps16
    go_wp2_with (first | (go_at_call 6; refine K.out.mono ?_; rintro e w1 ⟨rfl, rfl⟩))
    go_ret
    exact ⟨rfl, rfl⟩
theorem part_no (c : Nat) (w : World) (h : isI c = false) : Calls Tryf.prog 16 #[.int .u8 c] w fun e w' => e = .returned (.bool false) ∧ w = w' := by
  have hl' : isL c = false := by simp [isI] at h; exact h.1
  have hd : ¬ (48 ≤ c ∧ c ≤ 57) := by simp [isI, isD] at h; omega
  have K := Lib.hid (start_no c w hl')
  clear hl' h
  by_cases h1 : c < 48
  · have d1 : decide ((48 : Int) ≤ (c : Int)) = false := decide_eq_false (by omega)
    go_enter Tryf.func16, Tryf.ntmps16
    go_wp2_with (first | (go_at_call 6; refine K.out.mono ?_; rintro e w1 ⟨rfl, rfl⟩))
    go_ret
    exact ⟨rfl, rfl⟩
  · have d1 : decide ((48 : Int) ≤ (c : Int)) = true := decide_eq_true (by omega)
    have d2 : decide ((c : Int) ≤ 57) = false := decide_eq_false (by omega)
    go_enter Tryf.func16, Tryf.ntmps16
    go_wp2_with (first | (go_at_call 6; refine K.out.mono ?_; rintro e w1 ⟨rfl, rfl⟩))
    go_ret
    exact ⟨rfl, rfl⟩
set_option maxHeartbeats 1000000 in
theorem end_any (b o cap : Nat) (bs : List UInt8) (w : World) (hc : ∀ j, j < bs.length → w.cell? ⟨b, o + j, none⟩ = some (.int .u8 (bt bs j))) (hn : bs.length ≤ 65536) :
    Calls Tryf.prog 7 #[.slice (some ⟨b, o, none⟩) bs.length cap, .int .i64 0] w fun e w' => e = .returned (.int .i64 (idEnd bs 0)) ∧ w = w' := by
  have HC := Lib.hid hc
  clear hc
  go_enter Tryf.func7, Tryf.ntmps7
  go_wp2_with fail
  go_loop [5] (fun v => ∃ i : Nat, i ≤ bs.length ∧ v = .int .i64 i ∧ Hid (idEnd bs i = idEnd bs 0)) (fun v => bs.length - (intOf v).toNat)
  case atStart => exact ⟨0, by omega, rfl, Lib.hid rfl⟩
  case round =>
    obtain ⟨i, hi, rfl, HE⟩ := hrel
    by_cases hlt : i < bs.length
    · have ci := HC.out i hlt
      have hlt' : (i : Int) < (bs.length : Int) := by omega
      by_cases hI : isI (bt bs i) = true
      · have HE2 := Lib.hid ((idEnd_step hlt hI).trans HE.out)
        generalize bt bs i = c at *
        go_wp2_with (first | (go_at_call 16; refine (part_yes _ _ hI).mono ?_; rintro e w1 ⟨rfl, rfl⟩))
        go_round
        case rel => exact ⟨i + 1, by omega, by go_num, HE2⟩
        case measure => simp [intOf]; omega
      · have hI' : isI (bt bs i) = false := by simpa using hI
        have HE2 := Lib.hid ((idEnd_stop (fun _ => hI')).symm.trans HE.out)
        generalize bt bs i = c at *
        go_wp2_with (first | (go_at_call 16; refine (part_no _ _ hI').mono ?_; rintro e w1 ⟨rfl, rfl⟩))
        go_ret
        exact ⟨congrArg (fun n : Nat => Ending.returned (.int .i64 (n : Int))) HE2.out, rfl⟩
    · have hlt' : decide ((i : Int) < (bs.length : Int)) = false := decide_eq_false (by omega)
      have HE2 := Lib.hid ((idEnd_stop (fun h => absurd h hlt)).symm.trans HE.out)
      go_wp2_with fail
      go_ret
      exact ⟨congrArg (fun n : Nat => Ending.returned (.int .i64 (n : Int))) HE2.out, rfl⟩
theorem off_any (S : Nat) (p : Int) (w : World) (h : w.cell? ⟨S, 3, none⟩ = some (.int .i64 p)) : Calls Tryf.prog 11 #[.pointer (some ⟨S, 0, none⟩)] w fun e w' => e = .returned (.int .i64 p) ∧ w = w' := by
  go_enter Tryf.func11, Tryf.ntmps11
  go_wp2_with fail
  go_ret
  exact ⟨rfl, rfl⟩
theorem count_any (S : Nat) (p : Int) (w : World) (h : w.cell? ⟨S, 8, none⟩ = some (.int .i64 p)) : Calls Tryf.prog 12 #[.pointer (some ⟨S, 0, none⟩)] w fun e w' => e = .returned (.int .i64 p) ∧ w = w' := by
  go_enter Tryf.func12, Tryf.ntmps12
  go_wp2_with fail
  go_ret
  exact ⟨rfl, rfl⟩
theorem ident_door {w0 : Base} {w : World} {S : Nat} {bs : List UInt8} {semi : Bool} {mode : Int} {p k : Nat} {E : Int} (h : Live w0 w S bs semi mode p (E + nxErr bs p)) (h0 : 0 ≤ E) (h1 : E ≤ 1000000) (hpk : p < k) (hk : k < bs.length)
    (hall : ∀ j, p ≤ j → j < k → isI (bt bs j) = true) (hs1 : bt bs k < 128) (hs2 : isI (bt bs k) = false) :
    Calls Tryf.prog 10 #[.pointer (some ⟨S, 0, none⟩)] w fun e w' => e = .returned (.string ⟨(sub bs p k).toArray⟩) ∧ Live w0 w' S bs semi mode k (E + nxErr bs k) := by
  have C := Lib.hid (ident_any h h0 h1 hpk hk hall hs1 hs2)
  clear h hall hs2
  go_enter Tryf.func10, Tryf.ntmps10
  go_wp2_with fail
  refine C.out.mono ?_
  rintro e w1 ⟨rfl, h⟩
  have H := Lib.hid h
  clear h C
  go_wp2_with fail
  go_ret
  exact ⟨rfl, H.out⟩
theorem bytes_any (a1 a2 : Option Addr) (n1 n2 c1 c2 : Nat) (w : World) (h1 : n1 ≤ 9223372036854775807) (h2 : n2 ≤ 9223372036854775807) : Calls Tryf.prog 5 #[.slice a1 n1 c1, .slice a2 n2 c2] w fun e w' => e = .returned (.bool (decide (n1 + n2 ≤ 1048576))) ∧ w = w' := by
  by_cases k1 : n1 ≤ 1048576
  · by_cases k2 : n2 ≤ 1048576
    · by_cases k3 : n1 + n2 ≤ 1048576
      · rw [decide_eq_true k3]
        go_enter Tryf.func5, Tryf.ntmps5
        go_wp2_with fail
        go_ret
        exact ⟨rfl, rfl⟩
      · rw [decide_eq_false k3]
        go_enter Tryf.func5, Tryf.ntmps5
        go_wp2_with fail
        go_ret
        exact ⟨rfl, rfl⟩
    · rw [decide_eq_false (by omega)]
      go_enter Tryf.func5, Tryf.ntmps5
      go_wp2_with fail
      go_ret
      exact ⟨rfl, rfl⟩
  · rw [decide_eq_false (by omega)]
    go_enter Tryf.func5, Tryf.ntmps5
    go_wp2_with fail
    go_ret
    exact ⟨rfl, rfl⟩
end Go.Proofs.YtjikoccbgekfmaaFmt.IdentLaw
