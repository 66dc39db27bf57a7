/-
  Proved: the walk of FnStringStringASCIIModel returns true at every argument.
  Conditions: the library's tables start as the program's text lays them.
-/
import Derived.Test.YtpniflbleihdoaaDoorAscii
namespace Go.Proofs.YtpniflbleihdoaaDoor.Ascii
open Go.ChangeShapes Go.WideShapes Go.ChangeAt Go.RowKit Go.Shelf Go.Lib Tok Undef QPlain
set_option linter.unusedVariables false

/-! ### Plain: the bytes of the quoted text. -/
theorem esc_small : ∀ c ∈ List.range 128, ∀ x ∈ escM c, 0 ≤ x ∧ x < 256 := by decide +kernel
theorem mdl_small (s : ByteArray) (h : ∀ b ∈ s.data.toList, b.toNat < 128) : ∀ x ∈ mdl s, 0 ≤ x ∧ x < 256 := by
  intro x hx
  unfold mdl flat at hx
  rcases List.mem_cons.1 hx with rfl | hx
  · omega
  rcases List.mem_append.1 hx with hx | hx
  · obtain ⟨b, hb, hx⟩ := List.mem_flatMap.1 hx
    exact esc_small b.toNat (by simp; exact h b hb) x hx
  · simp at hx; subst hx; omega
theorem strOfNums_size (l : List Int) : (strOfNums l).size = l.length := by
  show (l.map fun n => UInt8.ofNat n.toNat).toArray.size = _
  simp
theorem strOfNums_at (l : List Int) (hl : ∀ x ∈ l, 0 ≤ x ∧ x < 256) (i : Nat) (h : i < (strOfNums l).size) : (((strOfNums l)[i]'h).toNat : Int) = l.getD i 0 := by
  have hi : i < l.length := by rw [strOfNums_size] at h; exact h
  have e : (strOfNums l)[i]'h = UInt8.ofNat (l[i]'hi).toNat := by
    have h2 : i < (l.map fun n => UInt8.ofNat n.toNat).length := by rw [List.length_map]; exact hi
    show (l.map fun n => UInt8.ofNat n.toNat)[i]'h2 = _
    rw [List.getElem_map]
  have := hl (l[i]'hi) (List.getElem_mem hi)
  rw [e, List.getD_eq_getElem?_getD, List.getElem?_eq_getElem hi, Option.getD_some]
  simp
  omega
theorem mdl_len (s : ByteArray) (h : s.size ≤ 65536) : (mdl s).length ≤ 1000000 := by
  have := flat_len s.data.toList
  have h2 : s.data.toList.length = s.size := by simp
  simp [mdl]
  omega

/-- zzBytes_. -/
theorem bytes_any (s : ByteArray) (w : World) (h : s.size ≤ 1048576) : Calls Tryd.prog 10 #[.string s] w fun e w' => e = .returned (.bool true) ∧ w = w' := by
  go_enter Tryd.func10, Tryd.ntmps10
  go_wp2_with fail
  go_ret
  exact ⟨rfl, rfl⟩
theorem bytes_not (s : ByteArray) (w : World) (h : ¬ s.size ≤ 1048576) : Calls Tryd.prog 10 #[.string s] w fun e w' => e = .returned (.bool false) ∧ w = w' := by
  go_enter Tryd.func10, Tryd.ntmps10
  go_wp2_with fail
  go_ret
  exact ⟨rfl, rfl⟩

def Low (s : ByteArray) (i : Nat) : Prop := ∀ j (h : j < s.size), j < i → (s[j]'h).toNat < 128
theorem Low.all {s : ByteArray} (h : Low s s.size) : ∀ b ∈ s.data.toList, b.toNat < 128 := by
  intro b hb
  obtain ⟨j, hj, rfl⟩ := List.getElem_of_mem hb
  have hj' : j < s.size := by simpa using hj
  exact h j hj' hj'

set_option maxHeartbeats 4000000 in
theorem walk0 (s : ByteArray) (w : World) (hs : s.size ≤ 9223372036854775807) (hQ : QTabs w) :
    Calls Tryd.prog 3 #[.string s] w fun e w' => e = .returned (.bool true) ∧ Below w.heap.size w w' := by
  have HQ := Lib.hid hQ
  clear hQ
  by_cases h : s.size ≤ 1048576
  · have CB := Lib.hid (bytes_any s w h)
    by_cases h2 : s.size ≤ 65536
    · go_enter Tryd.func3, Tryd.ntmps3
      go_wp2_with (go_at_call 10; refine CB.out.mono ?_; rintro e w1 ⟨rfl, rfl⟩)
      clear CB
      go_loop [3] (fun vi => ∃ i : Nat, i ≤ s.size ∧ vi = .int .i64 i ∧ Hid (Low s i)) (fun vi => s.size - (intOf vi).toNat)
      case atStart => exact ⟨0, by omega, rfl, Lib.hid (fun j hj hlt => absurd hlt (by omega))⟩
      case round =>
        obtain ⟨i, hi, rfl, HL⟩ := hrel
        by_cases hlt : i < s.size
        · have hlt' : (i : Int) < (s.size : Int) := by omega
          by_cases hc : (s[i]'hlt).toNat < 128
          · have hc' : decide ((128 : Int) ≤ (((s[i]'hlt).toNat : Nat) : Int)) = false := decide_eq_false (by omega)
            go_wp2_with fail
            go_round
            case rel =>
              refine ⟨i + 1, by omega, by go_num, Lib.hid (fun j hj hlt2 => ?_)⟩
              rcases Nat.lt_or_ge j i with k | k
              · exact HL.out j hj k
              · have : j = i := by omega
                subst this
                exact hc
            case measure => simp [intOf]; omega
          · have hc' : decide ((128 : Int) ≤ (((s[i]'hlt).toNat : Nat) : Int)) = true := decide_eq_true (by omega)
            go_wp2_with fail
            go_ret
            exact ⟨rfl, Below.refl _ _⟩
        · have hlt' : ¬ (i : Int) < (s.size : Int) := by omega
          have hall : Low s s.size := by
            have : i = s.size := by omega
            rw [← this]; exact HL.out
          have hb7 := hall.all
          have q1 := quote_mdl s hb7
          have q2 := mdl_small s hb7
          have q3 := mdl_len s h2
          have Q1 := Lib.hid q1
          have Q2 := Lib.hid q2
          have Q3 := Lib.hid q3
          clear q1 q2 q3 hb7 hall HL
          go_wp2_with fail
          refine (string_any _ s _ (by go_simp) h (HQ.out.below ((Below.refl _ _).alloc (Nat.le_refl _) _))).mono ?_
          rintro e w1 ⟨rfl, hb⟩
          have B1 := Lib.hid ((show Below w.heap.size w (w.alloc _) from (Below.refl _ _).alloc (Nat.le_refl _) _).trans (hb.mono (by simp)))
          clear hb
          go_wp2_with fail
          refine (model_any s w1 h2).mono ?_
          rintro e w2 ⟨v, rfl, ob⟩
          obtain ⟨g, cap, rfl, hcells⟩ := buf_cells ob (by simp [mdl])
          have B2 := Lib.hid (B1.out.trans (ob.2.1.mono B1.out.size))
          have HC := Lib.hid hcells
          clear ob hcells
          go_wp2_with fail
          refine (same_any g cap (mdl s) (Undef.quoted s) w2 ?_ ?_ HC.out Q3.out).mono ?_
          · unfold Undef.quoted; rw [strOfNums_size, Q1.out]
          · unfold Undef.quoted; rw [Q1.out]; exact strOfNums_at _ Q2.out
          rintro e w3 ⟨rfl, k, rfl⟩
          go_wp2_with fail
          go_ret
          exact ⟨rfl, B2.out.trans (⟨rfl, rfl, rfl, Nat.le_refl _, fun _ _ => rfl⟩)⟩
    · go_enter Tryd.func3, Tryd.ntmps3
      go_wp2_with (go_at_call 10; refine CB.out.mono ?_; rintro e w1 ⟨rfl, rfl⟩)
      go_ret
      exact ⟨rfl, Below.refl _ _⟩
  · have CB := Lib.hid (bytes_not s w h)
    go_enter Tryd.func3, Tryd.ntmps3
    go_wp2_with (go_at_call 10; refine CB.out.mono ?_; rintro e w1 ⟨rfl, rfl⟩)
    go_ret
    exact ⟨rfl, Below.refl _ _⟩

theorem walk (s : ByteArray) (ws : s.size ≤ maxLen) (w : World) (hL : laidMet Tryd.prog Rows.fnStringStringASCIIModelRow.laid w) :
    Calls Tryd.prog 3 #[.string s] w fun e w' => e = .returned (.bool true) ∧ Below w.heap.size w w' := by
  refine walk0 s w (by unfold maxLen at ws; omega) (qtabs_of ?_ ?_ ?_ ?_ ?_ ?_)
  · exact Lib.laidMet.reads hL (.head _)
  · exact Lib.laidMet.reads hL (.tail _ (.tail _ (.tail _ (.tail _ (.tail _ (.tail _ (.head _)))))))
  · exact Lib.laidMet.reads hL (.tail _ (.tail _ (.tail _ (.tail _ (.head _)))))
  · exact Lib.laidMet.reads hL (.tail _ (.tail _ (.head _)))
  · exact Lib.laidMet.reads hL (.tail _ (.tail _ (.tail _ (.tail _ (.tail _ (.head _))))))
  · exact Lib.laidMet.reads hL (.tail _ (.tail _ (.tail _ (.head _))))
end Go.Proofs.YtpniflbleihdoaaDoor.Ascii
