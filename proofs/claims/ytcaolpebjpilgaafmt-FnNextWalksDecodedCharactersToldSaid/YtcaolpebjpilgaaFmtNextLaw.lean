/-
  Proved: the walk of FnNextWalksDecodedCharacters returns true at every argument.
  Conditions: the library's UTF-8 tables hold what the row lists.
-/
import Derived.Test.YtcaolpebjpilgaaFmtM96
namespace Go.Proofs.YtcaolpebjpilgaaFmt.NextLaw
open Go.ChangeShapes Go.WideShapes Go.ChangeAt Go.RowKit Core Dec96
set_option linter.unusedVariables false

theorem bytes_yes (a : Option Addr) (len cap : Nat) (w : World) (h : len ≤ 1048576) : Calls Tryf.prog 16 #[.slice a len cap] w fun e w' => e = .returned (.bool true) ∧ w = w' := by
  go_enter Tryf.func16, Tryf.ntmps16
  go_wp2_with fail
  go_ret
  exact ⟨rfl, rfl⟩
theorem bytes_no (a : Option Addr) (len cap : Nat) (w : World) (h : ¬ len ≤ 1048576) : Calls Tryf.prog 16 #[.slice a len cap] w fun e w' => e = .returned (.bool false) ∧ w = w' := by
  go_enter Tryf.func16, Tryf.ntmps16
  go_wp2_with fail
  go_ret
  exact ⟨rfl, rfl⟩
/-- The k-th record's cells. -/
theorem rec_cells {bs : List UInt8} {w : World} {g k : Nat} (h : ∀ j u, (recs bs (chars bs))[j]? = some u → w.cell? ⟨g, j, none⟩ = some u) (hk : k < (chars bs).length) :
    w.cell? ⟨g, k * 3, none⟩ = some (.int .i64 (place bs k)) ∧ w.cell? ⟨g, k * 3 + 1, none⟩ = some (.int .i32 (dec bs (place bs k)).1) ∧ w.cell? ⟨g, k * 3 + 2, none⟩ = some (.bool (badM bs (place bs k))) := by
  have e : (chars bs).getD k 0 = place bs k := by
    unfold place
    rw [List.getD_eq_getElem?_getD, List.getD_eq_getElem?_getD, List.getElem?_eq_getElem hk]
    rfl
  have r := fun j hj => recs_at bs (chars bs) k j hk hj
  rw [e] at r
  refine ⟨h _ _ ?_, h _ _ ?_, h _ _ ?_⟩
  · have := r 0 (by omega); rw [Nat.add_zero, Nat.mul_comm] at this; rw [this]; rfl
  · have := r 1 (by omega); rw [Nat.mul_comm] at this; rw [this]; rfl
  · have := r 2 (by omega); rw [Nat.mul_comm] at this; rw [this]; rfl
theorem nxCh_in {bs : List UInt8} {p : Nat} (h : p < bs.length) : nxCh bs p = ((dec bs p).1 : Int) := by unfold nxCh; rw [if_pos h]

set_option maxHeartbeats 4000000 in
set_option maxRecDepth 20000 in
theorem walk0 (a : Option Addr) (cap : Nat) (bs : List UInt8) (w : World) (hs : Src w a cap bs) (hN : a = none → bs.length = 0 ∧ cap = 0) (hlen : bs.length ≤ 9223372036854775807) (hT : Tabs w) :
    Calls Tryf.prog 4 #[.slice a bs.length cap] w fun e w' => e = .returned (.bool true) ∧ Below w.heap.size w w' := by
  have HS := Lib.hid hs
  have HT := Lib.hid hT
  have HN := Lib.hid hN
  clear hs hT hN
  by_cases h20 : bs.length ≤ 1048576
  · by_cases h16 : bs.length ≤ 65536
    · go_enter Tryf.func4, Tryf.ntmps4
      go_wp2_with (first | (go_at_call 16; refine (bytes_yes a bs.length cap w h20).mono ?_; rintro e w1 ⟨rfl, rfl⟩))
      refine (P96.clone_any a cap bs w HS.out HN.out h20).mono ?_
      rintro e w1 ⟨A, cap1, rfl, hs1, ho1, hA1, hN1⟩
      have H1 := Lib.hid hs1
      have O1 := Lib.hid ho1
      have T1 := Lib.hid (HT.out.only ho1)
      clear hs1 ho1 hA1 HN HS hN1
      go_wp2_with fail
      refine (model_any A cap1 bs w1 H1.out h16).mono ?_
      rintro e w2 ⟨v, rfl, hM⟩
      obtain ⟨ma, mcap, rfl, hread⟩ := hM.read
      have HRd := Lib.hid hread
      have O2 := Lib.hid (Only.ofBelow hM.below [])
      have T2 := Lib.hid (T1.out.only O2.out)
      have S2 := Lib.hid (H1.out.keep O2.out (by simp))
      clear hM hread
      go_wp2_with fail
      refine (made_any A cap1 bs w2 S2.out (by omega) T2.out).mono ?_
      rintro e w3 ⟨S, F, rfl, hL⟩
      have HL0 := Lib.hid hL
      clear hL
      have hm := chs_length (bs := bs) (f := bs.length) (p := bom bs)
      have hm' : (chars bs).length ≤ bs.length := hm
      clear hm
      go_wp2_with fail
      go_loopw [6] (fun vk wr => ∃ (k : Nat) (er : Int), k ≤ (chars bs).length ∧ vk = .int .i64 k ∧ Hid (Live w2 wr S bs false 0 (place bs k) er) ∧ 0 ≤ er ∧ er ≤ place bs k + 1) (fun vk _ => (chars bs).length - (intOf vk).toNat)
      case atStart =>
        have hne := nxErr_le (bs := bs) (p := bom bs)
        exact ⟨0, nxErr bs (bom bs), by omega, rfl, by rw [place_zero]; exact HL0, by omega, by omega⟩
      case round =>
        obtain ⟨k, er, hk, rfl, HL, e0, e1⟩ := hrel
        by_cases hlt : k < (chars bs).length
        · have hlt' : (k : Int) < ((chars bs).length : Int) := by omega
          obtain ⟨hp, hst⟩ := place_step hlt
          have hgt := nxRd_gt hp
          obtain ⟨g, rfl, hg, hcells⟩ := HRd.out (by omega)
          obtain ⟨m0, m1, _⟩ := rec_cells hcells hlt
          have m0' := HL.out.only.cell m0 (by simp)
          have m1' := HL.out.only.cell m1 (by simp)
          have c3 := HL.out.off
          have c2 := HL.out.ch
          rw [nxCh_in hp] at c2
          have hne := nxErr_le (bs := bs) (p := nxRd bs (place bs k))
          have HST := Lib.hid hst
          clear m0 m1 hcells hst
          generalize place bs k = p at *
          generalize (dec bs p).1 = R at *
          have b1 : ((p : Int) != (p : Int)) = false := by simp
          have b2 : ((R : Int) != (R : Int)) = false := by simp
          go_wp2_with fail
          go_quiet (first | (go_at_call 20; exact Calls.quiet_of_same ((off_any S _ _ (by simpa using c3)).mono fun e w' h => ⟨h.1, h.2.symm⟩)) | (go_at_call 21; exact Calls.quiet_of_same ((ch_any S _ _ (by simpa using c2)).mono fun e w' h => ⟨h.1, h.2.symm⟩)))
          have C2 := Lib.hid (next_door (HL.out.draws nq) e0 (by omega))
          go_wp2_with fail
          refine C2.out.mono ?_
          rintro e w5 ⟨rfl, hL5⟩
          have HL5 := Lib.hid hL5
          clear hL5 C2
          go_wp2_with fail
          go_roundw
          case rel =>
            refine ⟨k + 1, er + nxErr bs (nxRd bs p), by omega, by go_num, ?_, ?_, ?_⟩
            · rw [HST.out]; exact HL5
            · omega
            · rw [HST.out]; omega
          case measure => simp [intOf]; omega
        · have hke : k = (chars bs).length := by omega
          have hlt' : ¬ (k : Int) < ((chars bs).length : Int) := by omega
          have hpe : place bs k = bs.length := by rw [hke]; exact place_end bs
          have HL2 := HL.out
          rw [hpe] at HL2
          have c3 := HL2.off
          have c2 := HL2.ch
          rw [(nx_end (Nat.le_refl _)).1] at c2
          have hne := nxErr_le (bs := bs) (p := bs.length)
          have C := Lib.hid (next_door HL2 e0 (by omega))
          rw [(nx_end (Nat.le_refl _)).2] at C
          clear HL2 HL hke hpe
          go_wp2_with (first | (go_at_call 20; refine (off_any S _ wr c3).mono ?_; rintro e w4 ⟨rfl, rfl⟩) | (go_at_call 21; refine (ch_any S _ wr c2).mono ?_; rintro e w4 ⟨rfl, rfl⟩))
          refine C.out.mono ?_
          rintro e w5 ⟨rfl, hL5⟩
          have d3 := hL5.off
          have d2 := hL5.ch
          rw [(nx_end (Nat.le_refl _)).1] at d2
          have B := Lib.hid ((O1.out.next (O2.out.next hL5.only (by simp)) (by simp)).below (Nat.le_refl _) (by simp))
          clear hL5 C c3 c2
          go_wp2_with (first | (go_at_call 20; refine (off_any S _ w5 d3).mono ?_; rintro e w4 ⟨rfl, rfl⟩) | (go_at_call 21; refine (ch_any S _ w5 d2).mono ?_; rintro e w4 ⟨rfl, rfl⟩))
          go_ret
          exact ⟨by simp, B.out⟩
    · go_enter Tryf.func4, Tryf.ntmps4
      go_wp2_with (first | (go_at_call 16; refine (bytes_yes a bs.length cap w h20).mono ?_; rintro e w1 ⟨rfl, rfl⟩))
      go_ret
      exact ⟨rfl, Below.refl _ _⟩
  · go_enter Tryf.func4, Tryf.ntmps4
    go_wp2_with (first | (go_at_call 16; refine (bytes_no a bs.length cap w h20).mono ?_; rintro e w1 ⟨rfl, rfl⟩))
    go_ret
    exact ⟨rfl, Below.refl _ _⟩

theorem walk (w : World) (a : Option Addr) (len cap : Nat) (z : List Int) (h : IsRow .u8 w a len cap z) (hL : laidMet Tryf.prog Rows.fnNextWalksDecodedCharactersRow.laid w) :
    Calls Tryf.prog 4 #[.slice a len cap] w fun e w' => e = .returned (.bool true) ∧ Below w.heap.size w w' := by
  have e := h.bytes_len
  have hm := h.len_le
  have hw := walk0 a cap (bytesOf len z) w h.src (fun ha => by subst ha; rw [e]; exact h.none) (by rw [e]; unfold maxLen at hm; omega) (tabs_of (Lib.laidMet.reads hL (.head _)) (Lib.laidMet.reads hL (.tail _ (.head _))))
  rwa [e] at hw
end Go.Proofs.YtcaolpebjpilgaaFmt.NextLaw
