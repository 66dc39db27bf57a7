/-
  Proved: the walk of FnErrorCountCountsIllegalCharactersRead returns true at every argument.
  Conditions: the library's UTF-8 tables hold what the row lists.
-/
import Derived.Test.YtcaolpebjpilgaaFmtM96
namespace Go.Proofs.YtcaolpebjpilgaaFmt.ErrLaw
open Go.ChangeShapes Go.WideShapes Go.ChangeAt Go.RowKit Core Dec96
set_option linter.unusedVariables false

theorem bytes_yes (a : Option Addr) (len cap : Nat) (w : World) (h : len ≤ 1048576) : Calls Tryf.prog 23 #[.slice a len cap] w fun e w' => e = .returned (.bool true) ∧ w = w' := by
  go_enter Tryf.func23, Tryf.ntmps23
  go_wp2_with fail
  go_ret
  exact ⟨rfl, rfl⟩
theorem bytes_no (a : Option Addr) (len cap : Nat) (w : World) (h : ¬ len ≤ 1048576) : Calls Tryf.prog 23 #[.slice a len cap] w fun e w' => e = .returned (.bool false) ∧ w = w' := by
  go_enter Tryf.func23, Tryf.ntmps23
  go_wp2_with fail
  go_ret
  exact ⟨rfl, rfl⟩
/-- The k-th record's cells. -/
theorem rec_cells {bs : List UInt8} {w : World} {g k : Nat} (h : ∀ j u, (recs bs (chars bs))[j]? = some u → w.cell? ⟨g, j, none⟩ = some u) (hk : k < (chars bs).length) :
    w.cell? ⟨g, k * 3, none⟩ = some (.int .i64 (place bs k)) ∧ w.cell? ⟨g, k * 3 + 1, none⟩ = some (.int .i32 (dec bs (place bs k)).1) ∧ w.cell? ⟨g, k * 3 + 2, none⟩ = some (.bool (badM bs (place bs k))) := by
  have e : (chars bs).getD k 0 = place bs k := by
    unfold place
    rw [List.getD_eq_getElem?_getD, List.getD_eq_getElem?_getD, List.getElem?_eq_getElem hk]
    rfl
  have r := fun j hj => recs_at bs (chars bs) k j hk hj
  rw [e] at r
  refine ⟨h _ _ ?_, h _ _ ?_, h _ _ ?_⟩
  · have := r 0 (by omega); rw [Nat.add_zero, Nat.mul_comm] at this; rw [this]; rfl
  · have := r 1 (by omega); rw [Nat.mul_comm] at this; rw [this]; rfl
  · have := r 2 (by omega); rw [Nat.mul_comm] at this; rw [this]; rfl
/-- What the model calls bad is what the scanner counts. -/
theorem place_bad {bs : List UInt8} {k : Nat} (hk : k < (chars bs).length) : nxErr bs (place bs k) = if badM bs (place bs k) then 1 else 0 := by
  obtain ⟨hp, _⟩ := place_step hk
  have h0 : place bs k = 0 → (dec bs 0).1 ≠ 65279 := by
    intro h hd
    cases k with
    | zero =>
      rw [place_zero] at h
      have : bom bs = (dec bs 0).2 := by unfold bom; rw [if_pos ⟨by omega, hd⟩]
      have hw := dec_width bs (i := 0) (by omega)
      omega
    | succ k =>
      obtain ⟨h1, h2⟩ := place_step (bs := bs) (k := k) (by omega)
      have := nxRd_gt h1
      omega
  unfold nxErr badM bad
  by_cases hb : (dec bs (place bs k)).1 = 0 ∨ ((dec bs (place bs k)).1 = 65533 ∧ (dec bs (place bs k)).2 = 1) ∨ (dec bs (place bs k)).1 = 65279
  · rw [decide_eq_true hb, if_pos]
    · rfl
    · refine ⟨hp, ?_⟩
      rcases hb with h | h | h
      · exact .inl h
      · exact .inr (.inl h)
      · refine .inr (.inr ⟨h, ?_⟩)
        rcases Nat.eq_zero_or_pos (place bs k) with hz | hz
        · rw [hz] at h; exact absurd h (h0 hz)
        · exact hz
  · rw [decide_eq_false hb, if_neg]
    · rfl
    · rintro ⟨_, h⟩
      exact hb (by omega)
theorem nxCh_in {bs : List UInt8} {p : Nat} (h : p < bs.length) : nxCh bs p = ((dec bs p).1 : Int) := by unfold nxCh; rw [if_pos h]

set_option maxHeartbeats 4000000 in
set_option maxRecDepth 20000 in
theorem walk0 (a : Option Addr) (cap : Nat) (bs : List UInt8) (w : World) (hs : Src w a cap bs) (hN : a = none → bs.length = 0 ∧ cap = 0) (hlen : bs.length ≤ 9223372036854775807) (hT : Tabs w) :
    Calls Tryf.prog 5 #[.slice a bs.length cap] w fun e w' => e = .returned (.bool true) ∧ Below w.heap.size w w' := by
  have HS := Lib.hid hs
  have HT := Lib.hid hT
  have HN := Lib.hid hN
  clear hs hT hN
  by_cases h20 : bs.length ≤ 1048576
  · by_cases h16 : bs.length ≤ 65536
    · go_enter Tryf.func5, Tryf.ntmps5
      go_wp2_with (first | (go_at_call 23; refine (bytes_yes a bs.length cap w h20).mono ?_; rintro e w1 ⟨rfl, rfl⟩))
      refine (P96.clone_any a cap bs w HS.out HN.out h20).mono ?_
      rintro e w1 ⟨A, cap1, rfl, hs1, ho1, hA1, hN1⟩
      have H1 := Lib.hid hs1
      have O1 := Lib.hid ho1
      have T1 := Lib.hid (HT.out.only ho1)
      clear hs1 ho1 hA1 HN HS hN1
      go_wp2_with fail
      refine (model_any A cap1 bs w1 H1.out h16).mono ?_
      rintro e w2 ⟨v, rfl, hM⟩
      obtain ⟨ma, mcap, rfl, hread⟩ := hM.read
      have HRd := Lib.hid hread
      have O2 := Lib.hid (Only.ofBelow hM.below [])
      have T2 := Lib.hid (T1.out.only O2.out)
      have S2 := Lib.hid (H1.out.keep O2.out (by simp))
      clear hM hread
      go_wp2_with fail
      refine (made_any A cap1 bs w2 S2.out (by omega) T2.out).mono ?_
      rintro e w3 ⟨S, F, rfl, hL⟩
      have HL0 := Lib.hid hL
      clear hL
      have hm := chs_length (bs := bs) (f := bs.length) (p := bom bs)
      have hm' : (chars bs).length ≤ bs.length := hm
      clear hm
      go_wp2_with fail
      go_loopw [6, 7] (fun vb vk wr => ∃ (k : Nat) (bd : Int), k ≤ (chars bs).length ∧ vk = .int .i64 k ∧ vb = .int .i64 bd ∧ Hid (Live w2 wr S bs false 0 (place bs k) (bd + nxErr bs (place bs k))) ∧ 0 ≤ bd ∧ bd ≤ k) (fun _ vk _ => (chars bs).length - (intOf vk).toNat)
      case atStart => exact ⟨0, 0, by omega, rfl, rfl, by rw [place_zero, Int.zero_add]; exact HL0, by omega, by omega⟩
      case round =>
        obtain ⟨k, bd, hk, rfl, rfl, HL, e0, e1⟩ := hrel
        by_cases hlt : k < (chars bs).length
        · have hlt' : (k : Int) < ((chars bs).length : Int) := by omega
          obtain ⟨hp, hst⟩ := place_step hlt
          obtain ⟨g, rfl, hg, hcells⟩ := HRd.out (by omega)
          obtain ⟨_, _, m2⟩ := rec_cells hcells hlt
          have m2' := HL.out.only.cell m2 (by simp)
          have c8 := HL.out.errsC
          have hbe := place_bad hlt
          have hne := nxErr_le (bs := bs) (p := place bs k)
          have C := Lib.hid (next_door HL.out (by omega) (by omega))
          rw [← hst] at C
          clear m2 hcells hst
          cases hb : badM bs (place bs k) with
          | true =>
            rw [hb] at m2' hbe
            rw [hbe] at c8 C
            simp only [if_true] at c8 C
            clear hb hbe HL hne
            generalize place bs k = p at *
            have b1 : ((bd + 1 : Int) != (bd + 1 : Int)) = false := by simp
            go_wp2_with (go_at_call 15; refine (count_any S _ wr c8).mono ?_; rintro e w4 ⟨rfl, rfl⟩)
            refine C.out.mono ?_
            rintro e w5 ⟨rfl, hL5⟩
            have HL5 := Lib.hid hL5
            clear hL5 C
            go_wp2_with fail
            go_roundw
            case rel => exact ⟨k + 1, bd + 1, by omega, by go_num, rfl, HL5, by omega, by omega⟩
            case measure => simp [intOf]; omega
          | false =>
            rw [hb] at m2' hbe
            rw [hbe] at c8 C
            simp at c8 C
            clear hb hbe HL hne
            generalize place bs k = p at *
            have b1 : ((bd : Int) != (bd : Int)) = false := by simp
            go_wp2_with (go_at_call 15; refine (count_any S _ wr c8).mono ?_; rintro e w4 ⟨rfl, rfl⟩)
            refine C.out.mono ?_
            rintro e w5 ⟨rfl, hL5⟩
            have HL5 := Lib.hid hL5
            clear hL5 C
            go_wp2_with fail
            go_roundw
            case rel => exact ⟨k + 1, bd, by omega, by go_num, rfl, HL5, by omega, by omega⟩
            case measure => simp [intOf]; omega
        · have hke : k = (chars bs).length := by omega
          have hlt' : ¬ (k : Int) < ((chars bs).length : Int) := by omega
          have hpe : place bs k = bs.length := by rw [hke]; exact place_end bs
          have hz : nxErr bs bs.length = 0 := by unfold nxErr; rw [if_neg (by omega)]
          have HL2 := HL.out
          rw [hpe, hz, Int.add_zero] at HL2
          have c8 := HL2.errsC
          have C := Lib.hid (next_door HL2 e0 (by omega))
          rw [(nx_end (Nat.le_refl _)).2, hz, Int.add_zero] at C
          clear HL2 HL hke hpe hz
          go_wp2_with (go_at_call 15; refine (count_any S _ wr c8).mono ?_; rintro e w4 ⟨rfl, rfl⟩)
          refine C.out.mono ?_
          rintro e w5 ⟨rfl, hL5⟩
          have d8 := hL5.errsC
          have B := Lib.hid ((O1.out.next (O2.out.next hL5.only (by simp)) (by simp)).below (Nat.le_refl _) (by simp))
          clear hL5 C c8
          go_wp2_with (go_at_call 15; refine (count_any S _ w5 d8).mono ?_; rintro e w4 ⟨rfl, rfl⟩)
          go_ret
          exact ⟨by simp, B.out⟩
    · go_enter Tryf.func5, Tryf.ntmps5
      go_wp2_with (first | (go_at_call 23; refine (bytes_yes a bs.length cap w h20).mono ?_; rintro e w1 ⟨rfl, rfl⟩))
      go_ret
      exact ⟨rfl, Below.refl _ _⟩
  · go_enter Tryf.func5, Tryf.ntmps5
    go_wp2_with (first | (go_at_call 23; refine (bytes_no a bs.length cap w h20).mono ?_; rintro e w1 ⟨rfl, rfl⟩))
    go_ret
    exact ⟨rfl, Below.refl _ _⟩

theorem walk (w : World) (a : Option Addr) (len cap : Nat) (z : List Int) (h : IsRow .u8 w a len cap z) (hL : laidMet Tryf.prog Rows.fnErrorCountCountsIllegalCharactersReadRow.laid w) :
    Calls Tryf.prog 5 #[.slice a len cap] w fun e w' => e = .returned (.bool true) ∧ Below w.heap.size w w' := by
  have e := h.bytes_len
  have hm := h.len_le
  have hw := walk0 a cap (bytesOf len z) w h.src (fun ha => by subst ha; rw [e]; exact h.none) (by rw [e]; unfold maxLen at hm; omega) (tabs_of (Lib.laidMet.reads hL (.head _)) (Lib.laidMet.reads hL (.tail _ (.head _))))
  rwa [e] at hw
end Go.Proofs.YtcaolpebjpilgaaFmt.ErrLaw
