/-
  Proved: the walk of FnPeekIsFirstByteOfFollowingCharacter returns true at every argument.
  Conditions: the library's UTF-8 tables hold what the row lists.
-/
import Derived.Test.YtcaolpebjpilgaaFmtM96
import Derived.Test.YtcaolpebjpilgaaFmtPeek
namespace Go.Proofs.YtcaolpebjpilgaaFmt.PeekLaw
open Go.ChangeShapes Go.WideShapes Go.ChangeAt Go.RowKit Core Dec96
set_option linter.unusedVariables false

theorem bytes_yes (a : Option Addr) (len cap : Nat) (w : World) (h : len ≤ 1048576) : Calls Tryf.prog 31 #[.slice a len cap] w fun e w' => e = .returned (.bool true) ∧ w = w' := by
  go_enter Tryf.func31, Tryf.ntmps31
  go_wp2_with fail
  go_ret
  exact ⟨rfl, rfl⟩
theorem bytes_no (a : Option Addr) (len cap : Nat) (w : World) (h : ¬ len ≤ 1048576) : Calls Tryf.prog 31 #[.slice a len cap] w fun e w' => e = .returned (.bool false) ∧ w = w' := by
  go_enter Tryf.func31, Tryf.ntmps31
  go_wp2_with fail
  go_ret
  exact ⟨rfl, rfl⟩
/-- The k-th record's cells. -/
theorem rec_cells {bs : List UInt8} {w : World} {g k : Nat} (h : ∀ j u, (recs bs (chars bs))[j]? = some u → w.cell? ⟨g, j, none⟩ = some u) (hk : k < (chars bs).length) :
    w.cell? ⟨g, k * 3, none⟩ = some (.int .i64 (place bs k)) ∧ w.cell? ⟨g, k * 3 + 1, none⟩ = some (.int .i32 (dec bs (place bs k)).1) ∧ w.cell? ⟨g, k * 3 + 2, none⟩ = some (.bool (badM bs (place bs k))) := by
  have e : (chars bs).getD k 0 = place bs k := by
    unfold place
    rw [List.getD_eq_getElem?_getD, List.getD_eq_getElem?_getD, List.getElem?_eq_getElem hk]
    rfl
  have r := fun j hj => recs_at bs (chars bs) k j hk hj
  rw [e] at r
  refine ⟨h _ _ ?_, h _ _ ?_, h _ _ ?_⟩
  · have := r 0 (by omega); rw [Nat.add_zero, Nat.mul_comm] at this; rw [this]; rfl
  · have := r 1 (by omega); rw [Nat.mul_comm] at this; rw [this]; rfl
  · have := r 2 (by omega); rw [Nat.mul_comm] at this; rw [this]; rfl
theorem peek_door {w0 w : World} {S : Nat} {bs : List UInt8} {semi : Bool} {mode : Int} {p : Nat} {errs : Int} (h : Live w0 w S bs semi mode p errs) (c : Nat) (hc : pk bs (nxRd bs p) = c) :
    Calls Tryf.prog 32 #[.pointer (some ⟨S, 0, none⟩)] w fun e w' => e = .returned (.int .u8 c) ∧ ∃ k, w' = w.drewN k := by
  have C := Lib.hid (peek_any h)
  rw [hc] at C
  clear h hc
  go_enter Tryf.func32, Tryf.ntmps32
  go_wp2_with fail
  refine C.out.mono ?_
  rintro e w1 ⟨rfl, k, rfl⟩
  go_wp2_with fail
  go_ret
  exact ⟨rfl, k, rfl⟩
theorem place_last {bs : List UInt8} {k : Nat} (h : k + 1 = (chars bs).length) : place bs (k + 1) = bs.length := by rw [h]; exact place_end bs
theorem nxCh_in {bs : List UInt8} {p : Nat} (h : p < bs.length) : nxCh bs p = ((dec bs p).1 : Int) := by unfold nxCh; rw [if_pos h]

set_option maxHeartbeats 4000000 in
set_option maxRecDepth 20000 in
theorem walk0 (a : Option Addr) (cap : Nat) (bs : List UInt8) (w : World) (hs : Src w a cap bs) (hN : a = none → bs.length = 0 ∧ cap = 0) (hlen : bs.length ≤ 9223372036854775807) (hT : Tabs w) :
    Calls Tryf.prog 7 #[.slice a bs.length cap] w fun e w' => e = .returned (.bool true) ∧ Below w.heap.size w w' := by
  have HS := Lib.hid hs
  have HT := Lib.hid hT
  have HN := Lib.hid hN
  clear hs hT hN
  by_cases h20 : bs.length ≤ 1048576
  · by_cases h16 : bs.length ≤ 65536
    · go_enter Tryf.func7, Tryf.ntmps7
      go_wp2_with (first | (go_at_call 31; refine (bytes_yes a bs.length cap w h20).mono ?_; rintro e w1 ⟨rfl, rfl⟩))
      refine (P96.clone_any a cap bs w HS.out HN.out h20).mono ?_
      rintro e w1 ⟨A, cap1, rfl, hs1, ho1, hA1, hN1⟩
      have H1 := Lib.hid hs1
      have O1 := Lib.hid ho1
      have T1 := Lib.hid (HT.out.only ho1)
      clear hs1 ho1 hA1 HN HS hN1
      go_wp2_with fail
      refine (model_any A cap1 bs w1 H1.out h16).mono ?_
      rintro e w2 ⟨v, rfl, hM⟩
      obtain ⟨ma, mcap, rfl, hread⟩ := hM.read
      have HRd := Lib.hid hread
      have O2 := Lib.hid (Only.ofBelow hM.below [])
      have T2 := Lib.hid (T1.out.only O2.out)
      have S2 := Lib.hid (H1.out.keep O2.out (by simp))
      clear hM hread
      go_wp2_with fail
      refine (made_any A cap1 bs w2 S2.out (by omega) T2.out).mono ?_
      rintro e w3 ⟨S, F, rfl, hL⟩
      have HL0 := Lib.hid hL
      clear hL
      have hm := chs_length (bs := bs) (f := bs.length) (p := bom bs)
      have hm' : (chars bs).length ≤ bs.length := hm
      clear hm
      go_wp2_with fail
      go_loopw [7, 8, 9] (fun vk _ _ wr => ∃ (k : Nat) (er : Int), k ≤ (chars bs).length ∧ vk = .int .i64 k ∧ Hid (Live w2 wr S bs false 0 (place bs k) er) ∧ 0 ≤ er ∧ er ≤ place bs k + 1) (fun vk _ _ _ => (chars bs).length - (intOf vk).toNat)
      case atStart =>
        have hne := nxErr_le (bs := bs) (p := bom bs)
        exact ⟨0, nxErr bs (bom bs), by omega, rfl, by rw [place_zero]; exact HL0, by omega, by omega⟩
      case round =>
        obtain ⟨k, er, hk, rfl, HL, e0, e1⟩ := hrel
        by_cases hlt : k < (chars bs).length
        · have hlt' : (k : Int) < ((chars bs).length : Int) := by omega
          obtain ⟨hp, hst⟩ := place_step hlt
          have hgt := nxRd_gt hp
          have hne := nxErr_le (bs := bs) (p := place bs (k + 1))
          have C := fun (q : Nat) => next_door (HL.out.draws q) e0 (by omega)
          rw [← hst] at C hgt
          have CC := Lib.hid C
          clear C
          by_cases hl2 : k + 1 < (chars bs).length
          · obtain ⟨hp2, _⟩ := place_step hl2
            have hl2' : (k : Int) + 1 < ((chars bs).length : Int) := by omega
            obtain ⟨g, rfl, hg, hcells⟩ := HRd.out (by omega)
            obtain ⟨m0, _, _⟩ := rec_cells hcells hl2
            have m0' := HL.out.only.cell m0 (by simp)
            obtain ⟨b, o, rfl, hc⟩ := (S2.out.keep HL.out.only (by simp)).2.2 (by omega)
            have cb := hc (place bs (k + 1)) hp2
            have K := Lib.hid (peek_door HL.out (bt bs (place bs (k + 1))) (by rw [← hst]; unfold pk; rw [if_pos hp2]))
            clear m0 hcells hst hc
            generalize hq : place bs (k + 1) = q at *
            have HQ := Lib.hid hq
            clear hq
            generalize place bs k = p at *
            have hp2' : (q : Int) < (bs.length : Int) := by omega
            have b1 : (((bt bs q : Nat) : Int) != ((bt bs q : Nat) : Int)) = false := by simp
            generalize bt bs q = c at *
            go_wp2_with fail
            refine K.out.mono ?_
            rintro e w4 ⟨rfl, q1, rfl⟩
            have C := Lib.hid (CC.out q1)
            clear K CC
            go_wp2_with fail
            refine C.out.mono ?_
            rintro e w5 ⟨rfl, hL5⟩
            have HL5 := Lib.hid hL5
            clear hL5 C
            go_wp2_with fail
            go_roundw
            case rel => exact ⟨k + 1, _, by omega, by go_num, by rw [HQ.out]; exact HL5, by omega, by rw [HQ.out]; omega⟩
            case measure => simp [intOf]; omega
          · have hpe := place_last (bs := bs) (k := k) (by omega)
            have hl2' : ¬ (k : Int) + 1 < ((chars bs).length : Int) := by omega
            have K := Lib.hid (peek_door HL.out 0 (by rw [← hst, hpe]; unfold pk; rw [if_neg (by omega)]))
            rw [hpe] at hgt hne CC
            have HQ := Lib.hid hpe
            clear hpe hst
            generalize place bs k = p at *
            have n0 : ¬ (bs.length : Int) < (bs.length : Int) := by omega
            go_wp2_with fail
            refine K.out.mono ?_
            rintro e w4 ⟨rfl, q1, rfl⟩
            have C := Lib.hid (CC.out q1)
            clear K CC
            go_wp2_with fail
            refine C.out.mono ?_
            rintro e w5 ⟨rfl, hL5⟩
            have HL5 := Lib.hid hL5
            clear hL5 C
            go_wp2_with fail
            go_roundw
            case rel => exact ⟨k + 1, _, by omega, by go_num, by rw [HQ.out]; exact HL5, by omega, by rw [HQ.out]; omega⟩
            case measure => simp [intOf]; omega
        · have hke : k = (chars bs).length := by omega
          have hlt' : ¬ (k : Int) < ((chars bs).length : Int) := by omega
          have hpe : place bs k = bs.length := by rw [hke]; exact place_end bs
          have HL2 := HL.out
          rw [hpe] at HL2 e1
          have hz : pk bs (nxRd bs bs.length) = 0 := by rw [(nx_end (Nat.le_refl _)).2]; unfold pk; rw [if_neg (by omega)]
          have K := Lib.hid (peek_door HL2 0 hz)
          have hne := nxErr_le (bs := bs) (p := bs.length)
          have HLH := Lib.hid HL2
          clear HL2 HL hke hpe hz
          go_wp2_with fail
          refine K.out.mono ?_
          rintro e w4 ⟨rfl, q1, rfl⟩
          have C := Lib.hid (next_door (HLH.out.draws q1) e0 (by omega))
          rw [(nx_end (Nat.le_refl _)).2] at C
          clear K
          go_wp2_with fail
          refine C.out.mono ?_
          rintro e w5 ⟨rfl, hL5⟩
          have hz : pk bs (nxRd bs bs.length) = 0 := by rw [(nx_end (Nat.le_refl _)).2]; unfold pk; rw [if_neg (by omega)]
          have K := Lib.hid (peek_door hL5 0 hz)
          have B := Lib.hid ((O1.out.next (O2.out.next hL5.only (by simp)) (by simp)))
          clear hL5 C hz
          go_wp2_with fail
          refine K.out.mono ?_
          rintro e w6 ⟨rfl, q2, rfl⟩
          clear K
          go_wp2_with fail
          go_ret
          exact ⟨by simp, (B.out.draws _).below (Nat.le_refl _) (by simp)⟩
    · go_enter Tryf.func7, Tryf.ntmps7
      go_wp2_with (first | (go_at_call 31; refine (bytes_yes a bs.length cap w h20).mono ?_; rintro e w1 ⟨rfl, rfl⟩))
      go_ret
      exact ⟨rfl, Below.refl _ _⟩
  · go_enter Tryf.func7, Tryf.ntmps7
    go_wp2_with (first | (go_at_call 31; refine (bytes_no a bs.length cap w h20).mono ?_; rintro e w1 ⟨rfl, rfl⟩))
    go_ret
    exact ⟨rfl, Below.refl _ _⟩

theorem walk (w : World) (a : Option Addr) (len cap : Nat) (z : List Int) (h : IsRow .u8 w a len cap z) (hL : laidMet Tryf.prog Rows.fnPeekIsFirstByteOfFollowingCharacterRow.laid w) :
    Calls Tryf.prog 7 #[.slice a len cap] w fun e w' => e = .returned (.bool true) ∧ Below w.heap.size w w' := by
  have e := h.bytes_len
  have hm := h.len_le
  have hw := walk0 a cap (bytesOf len z) w h.src (fun ha => by subst ha; rw [e]; exact h.none) (by rw [e]; unfold maxLen at hm; omega) (tabs_of (Lib.laidMet.reads hL (.head _)) (Lib.laidMet.reads hL (.tail _ (.head _))))
  rwa [e] at hw
end Go.Proofs.YtcaolpebjpilgaaFmt.PeekLaw
