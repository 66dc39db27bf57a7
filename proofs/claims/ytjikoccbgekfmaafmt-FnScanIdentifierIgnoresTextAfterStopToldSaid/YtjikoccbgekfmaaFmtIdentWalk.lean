/-
  Proved: the walk of FnScanIdentifierIgnoresTextAfterStop returns true at every argument.
  Conditions: the library's UTF-8 tables hold what the row lists.
-/
import Derived.Test.YtjikoccbgekfmaaFmtIdentLaw
namespace Go.Proofs.YtjikoccbgekfmaaFmt.IdentLaw
open Go.ChangeShapes Go.WideShapes Go.ChangeAt Go.RowKit Core
set_option linter.unusedVariables false

theorem half_src {w wr : World} {bs : List UInt8} (h : Half w wr bs bs.length) (hn : bs.length ≤ 2000000) : Src wr (some ⟨w.heap.size, 0, none⟩) bs.length bs ∧ Only w wr [] ∧ w.heap.size < wr.heap.size := by
  obtain ⟨cs, h1, h2, h3, h4⟩ := h
  refine ⟨⟨Nat.le_refl _, by unfold maxLen; omega, fun _ => ⟨_, _, rfl, fun j hj => ?_⟩⟩, h4, h1.lt⟩
  rw [Nat.zero_add, h1.cell]
  exact h3 j hj
set_option maxHeartbeats 8000000 in
set_option maxRecDepth 20000 in
theorem walkIn (b o cap : Nat) (a2 : Option Addr) (cap2 : Nat) (bs ts : List UInt8) (k : Nat) (w : World) (hs : Src w (some ⟨b, o, none⟩) cap bs) (ht : Src w a2 cap2 ts) (hn : bs.length ≤ 65536) (hm : ts.length ≤ 65536) (hT : Tabs w)
    (hk : k = idEnd bs 0) (hkl : k < bs.length) (hk0 : isL (bt bs 0) = true) (hka : bt bs k < 128) :
    Calls Tryf.prog 3 #[.slice (some ⟨b, o, none⟩) bs.length cap, .slice a2 ts.length cap2] w fun e w' => e = .returned (.bool true) ∧ Below w.heap.size w w' := by
  have hbc : ∀ j, j < bs.length → w.cell? ⟨b, o + j, none⟩ = some (.int .u8 (bt bs j)) := by
    obtain ⟨b', o', e, hc⟩ := hs.2.2 (by omega)
    injection e with e
    injection e with e1 e2 e3
    subst e1 e2
    exact hc
  have hcap := hs.1
  have hcap' : cap ≤ 9223372036854775807 := by have := hs.2.1; unfold maxLen at this; omega
  have c0 := hbc 0 (by omega)
  have ck := hbc k hkl
  rw [Nat.add_zero] at c0
  have hall := (idEnd_all (bs := bs) (p := 0) (by omega)).1
  have hstop := (idEnd_all (bs := bs) (p := 0) (by omega)).2
  rw [← hk] at hall hstop
  have hk1 : 0 < k := by
    rcases Nat.eq_zero_or_pos k with h | h
    · exfalso
      have h2 := hstop hkl
      rw [h] at h2
      simp [isI, hk0] at h2
    · exact h
  have HAll := Lib.hid hall
  have HStop := Lib.hid (hstop hkl)
  have HE := Lib.hid (end_any b o cap bs w hbc hn)
  rw [← hk] at HE
  have HS := Lib.hid hs
  have HTt := Lib.hid ht
  have HC := Lib.hid hbc
  have HT := Lib.hid hT
  have hol := Lib.hid (other_len (ts := ts) hkl)
  have hmk := run_make_row' (P := Tryf.prog) 22 5 (.int .u8 0) 1 Tryf.underlying22 byteInfo rfl .i64 .i64 (k + 1 + ts.length) (by omega) (by omega)
  rw [show ((k + 1 + ts.length : Nat) : Int) = (k : Int) + 1 + (ts.length : Int) by omega] at hmk
  have n0 : ((bs.length : Int) == 0) = false := by rw [beq_eq_false_iff_ne]; omega
  have i0 : (0 : Int) < (bs.length : Int) := by omega
  have ik : (k : Int) < (bs.length : Int) := by omega
  have d128 : decide ((128 : Int) ≤ ((bt bs k : Nat) : Int)) = false := decide_eq_false (by omega)
  have dk : decide ((bs.length : Int) ≤ (k : Int)) = false := decide_eq_false (by omega)
  have HK := Lib.hid hk
  clear hs ht hT hall hstop hbc hk
  have B := Lib.hid (bytes_any (some ⟨b, o, none⟩) a2 bs.length ts.length cap cap2 w (by omega) (by omega))
  rw [decide_eq_true (show bs.length + ts.length ≤ 1048576 by omega)] at B
  go_enter Tryf.func3, Tryf.ntmps3
  go_wp2_with (first | (go_at_call 5; refine B.out.mono ?_; rintro e w1 ⟨rfl, rfl⟩) | (go_at_call 6; refine (start_yes _ _ hk0).mono ?_; rintro e w1 ⟨rfl, rfl⟩) | (go_at_call 7; refine HE.out.mono ?_; rintro e w1 ⟨rfl, rfl⟩))
  refine (P140.clone_any (some ⟨b, o, none⟩) cap bs w HS.out (fun h => by cases h) (by omega)).mono ?_
  rintro e w1 ⟨A, cap1, rfl, hs1, ho1, hA1, hN1⟩
  have S1 := Lib.hid hs1
  have O1 := Lib.hid ho1
  clear hs1 ho1 hA1 hN1 c0 ck HE B n0 d128 dk
  go_wp2_with fail
  clear hmk
  go_loopw [9] (fun vi wr => ∃ i : Nat, i ≤ k + 1 ∧ vi = .int .i64 i ∧ Hid (Half w1 wr (other bs ts k) i)) (fun vi _ => k + 1 - (intOf vi).toNat)
  case atStart => exact ⟨0, by omega, rfl, Lib.hid (by have := Half.start w1 (other bs ts k) (.int .u8 0); rw [hol.out] at this; exact this)⟩
  case round =>
    obtain ⟨i, hi, rfl, HH⟩ := hrel
    by_cases hlt : i ≤ k
    · have hlt' : (i : Int) ≤ (k : Int) := by omega
      have hib : (i : Int) < (bs.length : Int) := by omega
      have hib2 : (i : Int) < (k : Int) + 1 + (ts.length : Int) := by omega
      have ci := (O1.out.next (show Only w1 wr [] by obtain ⟨_, _, _, _, h⟩ := HH.out; exact h) (by simp)).cell (HC.out i (by omega)) (by simp)
      have hfr := HH.out.free i
      obtain ⟨v, hv⟩ := HH.out.cell (i := i) (by rw [hol.out]; omega)
      have HN := Lib.hid (HH.out.step (by rw [hol.out]; omega))
      rw [other_head hkl hlt] at HN
      go_wp2_with fail
      go_roundw
      case rel => exact ⟨i + 1, by omega, by go_num, HN⟩
      case measure => simp [intOf]; omega
    · have hi1 : i = k + 1 := by omega
      subst hi1
      have HH0 := HH
      obtain ⟨wx, hwx⟩ : ∃ wx, wx = wr := ⟨_, rfl⟩
      have hlt' : ¬ (((k + 1 : Nat) : Int) ≤ (k : Int)) := by omega
      go_wp2_with fail
      go_loopw [10] (fun vi wq => ∃ i : Nat, i ≤ ts.length ∧ vi = .int .i64 i ∧ Hid (Half w1 wq (other bs ts k) (k + 1 + i))) (fun vi _ => ts.length - (intOf vi).toNat)
      case atStart => exact ⟨0, by omega, rfl, HH0⟩
      case round =>
        obtain ⟨i, hi, rfl, HH⟩ := hrel
        by_cases hlt : i < ts.length
        · have hlt' : (i : Int) < (ts.length : Int) := by omega
          have hib2 : (k : Int) + 1 + (i : Int) < (k : Int) + 1 + (ts.length : Int) := by omega
          obtain ⟨b2, o2, rfl, hc2⟩ := HTt.out.2.2 (by omega)
          have ci := (O1.out.next (show Only w1 wr [] by obtain ⟨_, _, _, _, h⟩ := HH.out; exact h) (by simp)).cell (hc2 i hlt) (by simp)
          have hfr := HH.out.free (k + 1 + i)
          obtain ⟨v, hv⟩ := HH.out.cell (i := k + 1 + i) (by rw [hol.out]; omega)
          have HN := Lib.hid (HH.out.step (by rw [hol.out]; omega))
          rw [other_tail hkl] at HN
          clear hc2
          go_wp2_with fail
          go_roundw
          case rel => exact ⟨i + 1, by omega, by go_num, HN⟩
          case measure => simp [intOf]; omega
        · have hie : i = ts.length := by omega
          subst hie
          have hlt' : ¬ ((ts.length : Int) < (ts.length : Int)) := by omega
          have hD := half_src (w := w1) (wr := wr) (bs := other bs ts k) (by rw [hol.out]; exact HH.out) (by rw [hol.out]; omega)
          obtain ⟨hs2, ho2, hz2⟩ := hD
          have OW := Lib.hid (O1.out.next ho2 (by simp))
          have S2 := Lib.hid hs2
          have S1' := Lib.hid (S1.out.keep ho2 (by simp))
          have TR := Lib.hid (HT.out.only OW.out)
          clear hs2 ho2 HH HH0 HTt S1 O1 HS
          go_wp2_with fail
          refine (P140.made_any A cap1 bs (fun _ => True) (fun _ _ => trivial) wr S1'.out (by omega) TR.out).mono ?_
          rintro e w3 ⟨Sa, rfl, hLa⟩
          have HLa := Lib.hid hLa
          have M2 := Lib.hid (P140.made_any (some ⟨w1.heap.size, 0, none⟩) (other bs ts k).length (other bs ts k) (fun n => n = w1.heap.size) (by intro a ha; injection ha with ha; subst ha; rfl) w3 (S2.out.keep hLa.only (by simp)) (by rw [hol.out]; omega) hLa.tabs)
          rw [hol.out] at M2
          clear hLa S2 S1'
          go_wp2_with fail
          refine M2.out.mono ?_
          rintro e w4 ⟨Sb, rfl, hLb⟩
          have hcl := isI_clean (c := bt bs 0) (by simp [isI, hk0])
          have hbo : bt (other bs ts k) 0 = bt bs 0 := other_head hkl (by omega)
          obtain ⟨Fa, La, hLa2, hXa⟩ := HLa.out.focus hLb.below
          have oW4 := Lib.hid ((OW.out.next HLa.out.only (by simp)).next hLb.only (by simp))
          have hza := HLa.out.only.size
          rw [bom_ascii hcl.2] at hLa2
          have HLb := Lib.hid hLb
          have C1 := Lib.hid (ident_door (E := 0) (k := k) (by rw [Int.zero_add]; exact hLa2) (by omega) (by omega) hk1 hkl (fun j a b => HAll.out j a b) hka HStop.out)
          have HXa := Lib.hid hXa
          clear hLa2 hXa hLb M2 HLa
          go_wp2_with fail
          refine C1.out.mono ?_
          rintro e w5 ⟨rfl, hL5⟩
          have c3a := hL5.off
          have c8a := hL5.errsC
          obtain ⟨Fb, Lb, hLb2, hXb⟩ := HLb.out.moved hL5.only (fun x hx => ⟨(HXa.out x hx).2, by have := (HXa.out x hx).1; omega⟩) hL5.tabs
          have oW5 := Lib.hid (oW4.out.next hL5.only (fun x hx => .inr (by have h1 := (HXa.out x hx).1; have h2 := OW.out.size; omega)))
          rw [bom_ascii (by rw [hbo]; exact hcl.2)] at hLb2
          have hbk : bt (other bs ts k) k = bt bs k := other_head hkl (Nat.le_refl _)
          have C2 := Lib.hid (ident_door (E := 0) (k := k) (by rw [Int.zero_add]; exact hLb2) (by omega) (by omega) hk1 (by rw [hol.out]; omega) (fun j a b => by rw [other_head hkl (by omega)]; exact HAll.out j a b) (by rw [hbk]; exact hka) (by rw [hbk]; exact HStop.out))
          have heq : nxErr (other bs ts k) k = nxErr bs k := by rw [nxErr_ascii (by rw [hol.out]; omega) (by rw [hbk]; exact hka), nxErr_ascii hkl hka, hbk]
          rw [other_sub hkl, heq] at C2
          have HXb := Lib.hid hXb
          have hSa := (HXa.out Sa (by simp)).2
          have hnot : Sa ∉ [Sb, Fb, Lb] := fun hm => by have := (HXb.out Sa hm).1; omega
          clear hLb2 hXb hL5 C1 HLb heq hbk hbo
          go_wp2_with fail
          refine C2.out.mono ?_
          rintro e w6 ⟨rfl, hL6⟩
          have d3a := hL6.only.cell c3a hnot
          have d8a := hL6.only.cell c8a hnot
          have d3b := hL6.off
          have d8b := hL6.errsC
          have oW6 := Lib.hid (oW5.out.next hL6.only (fun x hx => .inr (by have h1 := (HXb.out x hx).1; have h2 := OW.out.size; omega)))
          have kc := conv_list w6 b o cap (sub bs 0 k) (fun j hj => by
            rw [sub_len (by omega)] at hj
            rw [sub_bt hj, Nat.zero_add]
            exact oW6.out.cell (HC.out j (by omega)) (by simp))
          rw [sub_len (by omega), Nat.sub_zero] at kc
          have g1 : (0 : Int) ≤ (k : Int) := by omega
          have g2 : (k : Int) ≤ (cap : Int) := by omega
          have n1 : ((k : Int) != (k : Int)) = false := by simp
          clear hL6 C2 c3a c8a HC hnot hSa
          generalize (⟨(sub bs 0 k).toArray⟩ : ByteArray) = str at *
          generalize nxErr bs k = er at *
          go_wp2_with (first | (go_at_call 11; refine (off_any _ _ w6 (by assumption)).mono ?_; rintro e w7 ⟨rfl, rfl⟩) | (go_at_call 12; refine (count_any _ _ w6 (by assumption)).mono ?_; rintro e w7 ⟨rfl, rfl⟩))
          go_ret
          exact ⟨by simp, oW6.out.below (Nat.le_refl _) (by simp)⟩
set_option maxHeartbeats 4000000 in
theorem walk0 (a : Option Addr) (cap : Nat) (a2 : Option Addr) (cap2 : Nat) (bs ts : List UInt8) (w : World) (hs : Src w a cap bs) (ht : Src w a2 cap2 ts) (hl1 : bs.length ≤ 9223372036854775807) (hl2 : ts.length ≤ 9223372036854775807) (hT : Tabs w) :
    Calls Tryf.prog 3 #[.slice a bs.length cap, .slice a2 ts.length cap2] w fun e w' => e = .returned (.bool true) ∧ Below w.heap.size w w' := by
  have B := Lib.hid (bytes_any a a2 bs.length ts.length cap cap2 w hl1 hl2)
  by_cases k0 : ¬ bs.length + ts.length ≤ 1048576
  · rw [decide_eq_false k0] at B
    go_enter Tryf.func3, Tryf.ntmps3
    go_wp2_with (first | (go_at_call 5; refine B.out.mono ?_; rintro e w1 ⟨rfl, rfl⟩))
    go_ret
    exact ⟨rfl, Below.refl _ _⟩
  replace k0 := Classical.not_not.1 k0
  rw [decide_eq_true k0] at B
  have HS := Lib.hid hs
  have HTt := Lib.hid ht
  have HT := Lib.hid hT
  clear hs ht hT
  by_cases k1 : ¬ bs.length ≤ 65536
  · go_enter Tryf.func3, Tryf.ntmps3
    go_wp2_with (first | (go_at_call 5; refine B.out.mono ?_; rintro e w1 ⟨rfl, rfl⟩))
    go_ret
    exact ⟨rfl, Below.refl _ _⟩
  replace k1 := Classical.not_not.1 k1
  by_cases k2 : ¬ ts.length ≤ 65536
  · have d1 : decide ((65536 : Int) < (bs.length : Int)) = false := decide_eq_false (by omega)
    have d2 : decide ((65536 : Int) < (ts.length : Int)) = true := decide_eq_true (by omega)
    go_enter Tryf.func3, Tryf.ntmps3
    go_wp2_with (first | (go_at_call 5; refine B.out.mono ?_; rintro e w1 ⟨rfl, rfl⟩))
    go_ret
    exact ⟨rfl, Below.refl _ _⟩
  replace k2 := Classical.not_not.1 k2
  by_cases k3 : bs.length = 0
  · have n0 : ((bs.length : Int) == 0) = true := by rw [beq_iff_eq]; omega
    clear k3
    go_enter Tryf.func3, Tryf.ntmps3
    go_wp2_with (first | (go_at_call 5; refine B.out.mono ?_; rintro e w1 ⟨rfl, rfl⟩))
    go_ret
    exact ⟨rfl, Below.refl _ _⟩
  obtain ⟨b, o, rfl, hc⟩ := HS.out.2.2 (by omega)
  have n0 : ((bs.length : Int) == 0) = false := by rw [beq_eq_false_iff_ne]; omega
  have i0 : (0 : Int) < (bs.length : Int) := by omega
  have c0 := hc 0 (by omega)
  rw [Nat.add_zero] at c0
  by_cases k4 : isL (bt bs 0) = true
  · have hle := idEnd_le (bs := bs) (p := 0) (by omega)
    obtain ⟨k, hk⟩ : ∃ k, k = idEnd bs 0 := ⟨_, rfl⟩
    by_cases k5 : k < bs.length ∧ bt bs k < 128
    · exact walkIn b o cap a2 cap2 bs ts k w HS.out HTt.out k1 k2 HT.out hk k5.1 k4 k5.2
    · have HE := Lib.hid (end_any b o cap bs w hc k1)
      rw [← hk] at HE hle
      by_cases k6 : k < bs.length
      · have ck := hc k k6
        have ik : (k : Int) < (bs.length : Int) := by omega
        have dk : decide ((bs.length : Int) ≤ (k : Int)) = false := decide_eq_false (by omega)
        have d128 : decide ((128 : Int) ≤ ((bt bs k : Nat) : Int)) = true := decide_eq_true (by omega)
        clear hc hk k5
        go_enter Tryf.func3, Tryf.ntmps3
        go_wp2_with (first | (go_at_call 5; refine B.out.mono ?_; rintro e w1 ⟨rfl, rfl⟩) | (go_at_call 6; refine (start_yes _ _ k4).mono ?_; rintro e w1 ⟨rfl, rfl⟩) | (go_at_call 7; refine HE.out.mono ?_; rintro e w1 ⟨rfl, rfl⟩))
        go_ret
        exact ⟨rfl, Below.refl _ _⟩
      · have dk : decide ((bs.length : Int) ≤ (k : Int)) = true := decide_eq_true (by omega)
        clear hc hk k5
        go_enter Tryf.func3, Tryf.ntmps3
        go_wp2_with (first | (go_at_call 5; refine B.out.mono ?_; rintro e w1 ⟨rfl, rfl⟩) | (go_at_call 6; refine (start_yes _ _ k4).mono ?_; rintro e w1 ⟨rfl, rfl⟩) | (go_at_call 7; refine HE.out.mono ?_; rintro e w1 ⟨rfl, rfl⟩))
        go_ret
        exact ⟨rfl, Below.refl _ _⟩
  · have k4' : isL (bt bs 0) = false := by simpa using k4
    clear hc k4
    go_enter Tryf.func3, Tryf.ntmps3
    go_wp2_with (first | (go_at_call 5; refine B.out.mono ?_; rintro e w1 ⟨rfl, rfl⟩) | (go_at_call 6; refine (start_no _ _ k4').mono ?_; rintro e w1 ⟨rfl, rfl⟩))
    go_ret
    exact ⟨rfl, Below.refl _ _⟩
theorem walk (w : World) (a : Option Addr) (len cap : Nat) (z : List Int) (a2 : Option Addr) (len2 cap2 : Nat) (z2 : List Int) (h : IsRow .u8 w a len cap z) (h2 : IsRow .u8 w a2 len2 cap2 z2) (hL : laidMet Tryf.prog Rows.fnScanIdentifierIgnoresTextAfterStopRow.laid w) :
    Calls Tryf.prog 3 #[.slice a len cap, .slice a2 len2 cap2] w fun e w' => e = .returned (.bool true) ∧ Below w.heap.size w w' := by
  have e := h.bytes_len
  have e2 := h2.bytes_len
  have hm := h.len_le
  have hm2 := h2.len_le
  have hw := walk0 a cap a2 cap2 (bytesOf len z) (bytesOf len2 z2) w h.src h2.src (by rw [e]; unfold maxLen at hm; omega) (by rw [e2]; unfold maxLen at hm2; omega) (tabs_of (Lib.laidMet.reads hL (.head _)) (Lib.laidMet.reads hL (.tail _ (.tail _ (.tail _ (.tail _ (.head _)))))))
  rwa [e, e2] at hw
end Go.Proofs.YtjikoccbgekfmaaFmt.IdentLaw
