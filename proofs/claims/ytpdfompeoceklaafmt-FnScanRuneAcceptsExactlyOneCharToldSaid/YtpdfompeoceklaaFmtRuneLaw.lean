/-
  Proved: the walk of FnScanRuneAcceptsExactlyOneChar returns true at every argument.
  Conditions: the library's UTF-8 tables hold what the row lists.
-/
import Derived.Test.YtpdfompeoceklaaFmtRuneDoor
namespace Go.Proofs.YtpdfompeoceklaaFmt.RuneLaw
open Go.ChangeShapes Go.WideShapes Go.ChangeAt Go.RowKit Core
set_option linter.unusedVariables false

theorem bytes_yes (a : Option Addr) (len cap : Nat) (w : World) (h : len ≤ 1048576) : Calls Tryf.prog 25 #[.slice a len cap] w fun e w' => e = .returned (.bool true) ∧ w = w' := by
  go_enter Tryf.func25, Tryf.ntmps25
  go_wp2_with fail
  go_ret
  exact ⟨rfl, rfl⟩
theorem bytes_no (a : Option Addr) (len cap : Nat) (w : World) (h : ¬ len ≤ 1048576) : Calls Tryf.prog 25 #[.slice a len cap] w fun e w' => e = .returned (.bool false) ∧ w = w' := by
  go_enter Tryf.func25, Tryf.ntmps25
  go_wp2_with fail
  go_ret
  exact ⟨rfl, rfl⟩
/-! ### Plain. -/
theorem acc_one {bs : List UInt8} (hl : 3 ≤ bs.length) (h1 : bt bs 1 ≠ 92) (h2 : bt bs 1 ≠ 39) (h3 : bt bs 1 ≠ 10) (h4 : bt bs 2 = 39) : accept bs = true := by
  have h : oneEnd bs = some 2 := by unfold oneEnd; rw [if_pos (by omega), if_neg h1, if_neg (by omega)]
  unfold accept
  rw [h]
  exact atB_iff.2 ⟨by omega, h4⟩
theorem acc_esc {bs : List UInt8} {q : Nat} (hq : 4 ≤ q) (hl : q ≤ bs.length) (h1 : bt bs 1 = 92) (h2 : bt bs (q - 1) = 39) (hr : (escF (sub bs 2 q) 0 39).1 = true) (he : (escF (sub bs 2 q) 0 39).2 = q - 3) : accept bs = true := by
  have hlo := escF_local (bs := sub bs 2 q) (cs := bs) (a := 0) (b := 2) (m := q - 3) (quote := 39) (fun j hj => by rw [Nat.zero_add]; exact sub_bt (by omega)) (by rw [sub_len hl]; omega) (by omega) hr (by omega)
  have h : oneEnd bs = some (q - 1) := by
    unfold oneEnd
    rw [if_pos (by omega), if_pos h1, hlo.1]
    show (if true = true then some (2 + ((escF (sub bs 2 q) 0 39).2 - 0)) else none) = _
    rw [if_pos rfl, he]
    congr 1
    omega
  unfold accept
  rw [h]
  exact atB_iff.2 ⟨by omega, h2⟩
/-- What an accepted literal is. -/
theorem acc_out {bs : List UInt8} {q : Nat} (hl : q ≤ bs.length) (ha : accept bs = true) (hq : ∃ r, oneEnd bs = some r ∧ q = r + 1) :
    (q = 3 ∧ bt bs 1 ≠ 92 ∧ bt bs 1 ≠ 39 ∧ bt bs 1 ≠ 10 ∧ bt bs 2 = 39) ∨ (4 ≤ q ∧ bt bs 1 = 92 ∧ bt bs (q - 1) = 39 ∧ (escF (sub bs 2 q) 0 39).1 = true ∧ (escF (sub bs 2 q) 0 39).2 = q - 3) := by
  obtain ⟨r, ho, rfl⟩ := hq
  have hr : r < bs.length ∧ bt bs r = 39 := by
    unfold accept at ha
    rw [ho] at ha
    exact atB_iff.1 ha
  unfold oneEnd at ho
  by_cases h0 : 1 < bs.length
  · rw [if_pos h0] at ho
    by_cases h1 : bt bs 1 = 92
    · rw [if_pos h1] at ho
      cases hk : (escF bs 2 39).1 with
      | false => rw [hk] at ho; cases ho
      | true =>
        rw [hk] at ho
        simp at ho
        have hle := (escF_le (bs := bs) (p := 2) (quote := 39) (by omega)).1
        have hlo := escF_local (bs := bs) (cs := sub bs 2 (r + 1)) (a := 2) (b := 0) (m := r + 1 - 3) (quote := 39) (fun j hj => by rw [Nat.zero_add]; exact (sub_bt (by omega)).symm) (by omega) (by rw [sub_len hl]; omega) hk (by omega)
        refine .inr ⟨by omega, h1, by simpa using hr.2, by rw [hlo.1], by rw [hlo.1]; simp; omega⟩
    · rw [if_neg h1] at ho
      by_cases h2 : bt bs 1 = 39 ∨ bt bs 1 = 10
      · rw [if_pos h2] at ho; cases ho
      · rw [if_neg h2] at ho
        injection ho with ho
        subst ho
        exact .inl ⟨rfl, h1, by omega, by omega, hr.2⟩
  · rw [if_neg h0] at ho; cases ho
theorem lit_tail {bs : List UInt8} {q : Nat} {str : ByteArray} (hs : str = strOf (sub bs 0 q)) (hl : q ≤ bs.length) : (str.extract 2 str.size).data.toList = sub bs 2 q := by
  have hz : str.size = q := by rw [hs, strOf_size, sub_len hl, Nat.sub_zero]
  rw [Lib.extract_data, hz, hs, strOf_data]
  unfold sub
  rw [List.drop_zero, Nat.sub_zero, List.drop_take, List.take_take]
  congr 1
  omega
theorem lit_bt {bs : List UInt8} {q k : Nat} {str : ByteArray} (hs : str = strOf (sub bs 0 q)) (hl : q ≤ bs.length) (hk : k < str.size) : str[k].toNat = bt bs k := by
  have hz : str.size = q := by rw [hs, strOf_size, sub_len hl, Nat.sub_zero]
  rw [← str_bt str k hk, hs, strOf_data, sub_bt (by omega), Nat.zero_add]
set_option maxHeartbeats 8000000 in
set_option maxRecDepth 20000 in
theorem walkIn (b o cap : Nat) (bs : List UInt8) (w : World) (hs : Src w (some ⟨b, o, none⟩) cap bs) (hn : bs.length ≤ 1048576) (hT : Tabs w) (hl : 1 ≤ bs.length) (hb : bt bs 0 = 39) :
    Calls Tryf.prog 6 #[.slice (some ⟨b, o, none⟩) bs.length cap] w fun e w' => e = .returned (.bool true) ∧ Below w.heap.size w w' := by
  have hbc : ∀ j, j < bs.length → w.cell? ⟨b, o + j, none⟩ = some (.int .u8 (bt bs j)) := by
    obtain ⟨b', o', e, hc⟩ := hs.2.2 (by omega)
    injection e with e
    injection e with e1 e2 e3
    subst e1 e2
    exact hc
  have c0 := hbc 0 (by omega)
  rw [Nat.add_zero] at c0
  have AS := Lib.hid (ascii_any b o cap bs w hbc hn)
  have CL := Lib.hid (P74.clone_any (some ⟨b, o, none⟩) cap bs w hs (fun h => by cases h) hn)
  have HT := Lib.hid hT
  have n0 : ((bs.length : Int) == 0) = false := by rw [beq_eq_false_iff_ne]; omega
  have i0 : (0 : Int) < (bs.length : Int) := by omega
  have t0 : (((bt bs 0 : Nat) : Int) != 39) = false := by simp; omega
  have l1 : decide ((1048576 : Int) < (bs.length : Int)) = false := decide_eq_false (by omega)
  clear hs hT hbc hb
  go_enter Tryf.func6, Tryf.ntmps6
  go_wp2_with (first | (go_at_call 25; refine (bytes_yes (some ⟨b, o, none⟩) bs.length cap w hn).mono ?_; rintro e w1 ⟨rfl, rfl⟩))
  refine AS.out.mono ?_
  rintro e wA ⟨r, rfl, rfl, hpl⟩
  clear AS c0 t0
  cases r with
  | false =>
    go_wp2_with fail
    go_ret
    exact ⟨rfl, Below.refl _ _⟩
  | true =>
    have HP := Lib.hid (hpl rfl)
    clear hpl
    go_wp2_with fail
    refine CL.out.mono ?_
    rintro e w1 ⟨A, cap1, rfl, hs1, ho1, hA1, hN1⟩
    have O1 := Lib.hid ho1
    have C1 := Lib.hid (rune_door A cap1 bs w1 hs1 hn (HT.out.only ho1) hl HP.out)
    clear hs1 ho1 hA1 hN1 CL
    go_wp2_with fail
    refine C1.out.mono ?_
    rintro e w4 ⟨q, er, rfl, hb4, hq1, hql, k3, k4, k5⟩
    have O4 := Lib.hid (O1.out.next (Only.ofBelow hb4 []) (by simp))
    have K3 := Lib.hid k3
    have K5 := Lib.hid k5
    obtain ⟨str, hstr⟩ : ∃ str : ByteArray, str = strOf (sub bs 0 q) := ⟨_, rfl⟩
    have hsz : str.size = q := by rw [hstr, strOf_size, sub_len hql, Nat.sub_zero]
    have HSTR := Lib.hid hstr
    rw [← hstr]
    clear hstr hb4 C1 k3 k5 O1
    obtain rfl : str.size = q := hsz
    by_cases q3 : str.size = 3
    · have tq : ((str.size : Int) == 3) = true := by rw [beq_iff_eq]; omega
      have tq4 : decide ((4 : Int) ≤ (str.size : Int)) = false := decide_eq_false (by omega)
      have j1 : (1 : Int) < (str.size : Int) := by omega
      have j2 : (2 : Int) < (str.size : Int) := by omega
      have j1n : 1 < str.size := by omega
      have j2n : 2 < str.size := by omega
      have e1 := lit_bt (k := 1) HSTR.out hql j1n
      have e2 := lit_bt (k := 2) HSTR.out hql j2n
      by_cases m92 : bt bs 1 = 92
      · have u92 : ((str[1].toNat : Int) != 92) = false := by simp; omega
        clear e1 e2
        have hac : accept bs = false := by
          cases hh : accept bs with
          | false => rfl
          | true => rcases acc_out hql hh (K5.out hh) with hw | hw <;> omega
        have te : (er == 0) = false := by
          rw [beq_eq_false_iff_ne]
          intro hh
          have := K3.out.1 hh
          rw [hac] at this
          cases this
        clear hac
        go_wp2_with fail
        go_ret
        exact ⟨by simp, O4.out.below (Nat.le_refl _) (by simp)⟩
      have u92 : ((str[1].toNat : Int) != 92) = true := by simp; omega
      by_cases m39 : bt bs 1 = 39
      · have u39 : ((str[1].toNat : Int) != 39) = false := by simp; omega
        clear e1 e2
        have hac : accept bs = false := by
          cases hh : accept bs with
          | false => rfl
          | true => rcases acc_out hql hh (K5.out hh) with hw | hw <;> omega
        have te : (er == 0) = false := by
          rw [beq_eq_false_iff_ne]
          intro hh
          have := K3.out.1 hh
          rw [hac] at this
          cases this
        clear hac
        go_wp2_with fail
        go_ret
        exact ⟨by simp, O4.out.below (Nat.le_refl _) (by simp)⟩
      have u39 : ((str[1].toNat : Int) != 39) = true := by simp; omega
      by_cases m10 : bt bs 1 = 10
      · have u10 : ((str[1].toNat : Int) != 10) = false := by simp; omega
        clear e1 e2
        have hac : accept bs = false := by
          cases hh : accept bs with
          | false => rfl
          | true => rcases acc_out hql hh (K5.out hh) with hw | hw <;> omega
        have te : (er == 0) = false := by
          rw [beq_eq_false_iff_ne]
          intro hh
          have := K3.out.1 hh
          rw [hac] at this
          cases this
        clear hac
        go_wp2_with fail
        go_ret
        exact ⟨by simp, O4.out.below (Nat.le_refl _) (by simp)⟩
      have u10 : ((str[1].toNat : Int) != 10) = true := by simp; omega
      by_cases n39 : bt bs 2 = 39
      · have v39 : ((str[2].toNat : Int) == 39) = true := by rw [beq_iff_eq]; omega
        have hac := acc_one (by omega) m92 m39 m10 n39
        have te : (er == 0) = true := by rw [beq_iff_eq]; exact K3.out.2 hac
        clear e1 e2 hac m92 m39 m10 n39 q3
        go_wp2_with fail
        go_ret
        exact ⟨by simp, O4.out.below (Nat.le_refl _) (by simp)⟩
      · have v39 : ((str[2].toNat : Int) == 39) = false := by rw [beq_eq_false_iff_ne]; omega
        clear e1 e2
        have hac : accept bs = false := by
          cases hh : accept bs with
          | false => rfl
          | true => rcases acc_out hql hh (K5.out hh) with hw | hw <;> omega
        have te : (er == 0) = false := by
          rw [beq_eq_false_iff_ne]
          intro hh
          have := K3.out.1 hh
          rw [hac] at this
          cases this
        clear hac
        go_wp2_with fail
        go_ret
        exact ⟨by simp, O4.out.below (Nat.le_refl _) (by simp)⟩
    · have tq : ((str.size : Int) == 3) = false := by rw [beq_eq_false_iff_ne]; omega
      by_cases q4 : 4 ≤ str.size
      · have tq4 : decide ((4 : Int) ≤ (str.size : Int)) = true := decide_eq_true (by omega)
        have j1 : (1 : Int) < (str.size : Int) := by omega
        have j1n : 1 < str.size := by omega
        have jl : str.size - 1 < str.size := by omega
        have jl2 : ((str.size : Int) - 1).toNat = str.size - 1 := by omega
        have e1 := lit_bt (k := 1) HSTR.out hql j1n
        have e2 := lit_bt (k := str.size - 1) HSTR.out hql jl
        by_cases m92 : bt bs 1 = 92
        · have u92 : ((str[1].toNat : Int) == 92) = true := by rw [beq_iff_eq]; omega
          by_cases n39 : bt bs (str.size - 1) = 39
          · have v39 : ((str[str.size - 1].toNat : Int) == 39) = true := by rw [beq_iff_eq]; omega
            clear e1 e2
            have htl := Lib.hid (lit_tail HSTR.out hql)
            have kc := Lib.run_convert_string_bytes (P := Tryf.prog) w4 9 22 5 (str.extract 2 str.size) Tryf.underlying9 Tryf.underlying22 Tryf.underlying5
            have hz2 : (str.extract 2 str.size).size ≤ 1048576 := by rw [← str_len, htl.out, sub_len hql]; omega
            have HB := Lib.hid (conv_below w4 5 (str.extract 2 str.size))
            have HS := Lib.hid (conv_src w4 5 (str.extract 2 str.size) (by unfold maxLen; omega))
            have k2a : (2 : Int) ≤ (str.size : Int) := by omega
            clear hz2
            go_wp2_with fail
            have hzz : (str.extract 2 str.size).size = str.size - 2 := by rw [← str_len, htl.out, sub_len hql]
            have hS := HS.out
            rw [htl.out, hzz] at hS
            have O5 := Lib.hid (O4.out.next (Only.ofBelow HB.out []) (by simp))
            have D := Lib.hid (esc_door (some ⟨w4.heap.size, 0, none⟩) _ (sub bs 2 str.size) _ hS (by rw [sub_len hql]; omega) (HT.out.only O5.out) (by rw [sub_bt (by omega)]; exact (HP.out 2 (by omega)).2))
            rw [sub_len hql] at D
            clear kc HS HB hS hzz htl
            refine D.out.mono ?_
            rintro e w6 ⟨er6, rfl, hb6⟩
            have O6 := Lib.hid (O5.out.next (Only.ofBelow hb6 []) (by simp))
            clear hb6 D O5 O4
            cases hk : (escF (sub bs 2 str.size) 0 39).1 with
            | true =>
              by_cases he : (escF (sub bs 2 str.size) 0 39).2 = str.size - 3
              · have hac := acc_esc q4 hql m92 n39 hk he
                have te : (er == 0) = true := by rw [beq_iff_eq]; exact K3.out.2 hac
                have tx : (((escF (sub bs 2 str.size) 0 39).2 : Int) == (str.size : Int) - 3) = true := by rw [beq_iff_eq]; omega
                clear hac hk he m92 n39
                go_wp2_with fail
                go_ret
                exact ⟨by simp, O6.out.below (Nat.le_refl _) (by simp)⟩
              · have tx : (((escF (sub bs 2 str.size) 0 39).2 : Int) == (str.size : Int) - 3) = false := by rw [beq_eq_false_iff_ne]; omega
                have hac : accept bs = false := by
                  cases hh : accept bs with
                  | false => rfl
                  | true =>
                    rcases acc_out hql hh (K5.out hh) with hw | hw
                    · omega
                    · exact absurd hw.2.2.2.2 he
                have te : (er == 0) = false := by
                  rw [beq_eq_false_iff_ne]
                  intro hh
                  have := K3.out.1 hh
                  rw [hac] at this
                  cases this
                clear hac
                clear hk he m92 n39
                go_wp2_with fail
                go_ret
                exact ⟨by simp, O6.out.below (Nat.le_refl _) (by simp)⟩
            | false =>
              have hac : accept bs = false := by
                cases hh : accept bs with
                | false => rfl
                | true =>
                  rcases acc_out hql hh (K5.out hh) with hw | hw
                  · omega
                  · exact absurd hw.2.2.2.1 (by rw [hk]; simp)
              have te : (er == 0) = false := by
                rw [beq_eq_false_iff_ne]
                intro hh
                have := K3.out.1 hh
                rw [hac] at this
                cases this
              clear hac
              clear hk m92 n39
              go_wp2_with fail
              go_ret
              exact ⟨by simp, O6.out.below (Nat.le_refl _) (by simp)⟩
          · have v39 : ((str[str.size - 1].toNat : Int) == 39) = false := by rw [beq_eq_false_iff_ne]; omega
            clear e1 e2
            have hac : accept bs = false := by
              cases hh : accept bs with
              | false => rfl
              | true => rcases acc_out hql hh (K5.out hh) with hw | hw <;> omega
            have te : (er == 0) = false := by
              rw [beq_eq_false_iff_ne]
              intro hh
              have := K3.out.1 hh
              rw [hac] at this
              cases this
            clear hac
            go_wp2_with fail
            go_ret
            exact ⟨by simp, O4.out.below (Nat.le_refl _) (by simp)⟩
        · have u92 : ((str[1].toNat : Int) == 92) = false := by rw [beq_eq_false_iff_ne]; omega
          clear e1 e2
          have hac : accept bs = false := by
            cases hh : accept bs with
            | false => rfl
            | true => rcases acc_out hql hh (K5.out hh) with hw | hw <;> omega
          have te : (er == 0) = false := by
            rw [beq_eq_false_iff_ne]
            intro hh
            have := K3.out.1 hh
            rw [hac] at this
            cases this
          clear hac
          go_wp2_with fail
          go_ret
          exact ⟨by simp, O4.out.below (Nat.le_refl _) (by simp)⟩
      · have tq4 : decide ((4 : Int) ≤ (str.size : Int)) = false := decide_eq_false (by omega)
        have hac : accept bs = false := by
          cases hh : accept bs with
          | false => rfl
          | true => rcases acc_out hql hh (K5.out hh) with hw | hw <;> omega
        have te : (er == 0) = false := by
          rw [beq_eq_false_iff_ne]
          intro hh
          have := K3.out.1 hh
          rw [hac] at this
          cases this
        clear hac
        go_wp2_with fail
        go_ret
        exact ⟨by simp, O4.out.below (Nat.le_refl _) (by simp)⟩
set_option maxHeartbeats 2000000 in
theorem walk0 (a : Option Addr) (cap : Nat) (bs : List UInt8) (w : World) (hs : Src w a cap bs) (hlen : bs.length ≤ 9223372036854775807) (hT : Tabs w) :
    Calls Tryf.prog 6 #[.slice a bs.length cap] w fun e w' => e = .returned (.bool true) ∧ Below w.heap.size w w' := by
  by_cases h20 : ¬ bs.length ≤ 1048576
  · clear hs hT
    go_enter Tryf.func6, Tryf.ntmps6
    go_wp2_with (first | (go_at_call 25; refine (bytes_no a bs.length cap w h20).mono ?_; rintro e w1 ⟨rfl, rfl⟩))
    go_ret
    exact ⟨rfl, Below.refl _ _⟩
  replace h20 := Classical.not_not.1 h20
  have l1 : decide ((1048576 : Int) < (bs.length : Int)) = false := decide_eq_false (by omega)
  by_cases h0 : bs.length = 0
  · have n0 : ((bs.length : Int) == 0) = true := by rw [beq_iff_eq]; omega
    clear hs hT h0
    go_enter Tryf.func6, Tryf.ntmps6
    go_wp2_with (first | (go_at_call 25; refine (bytes_yes a bs.length cap w h20).mono ?_; rintro e w1 ⟨rfl, rfl⟩))
    go_ret
    exact ⟨rfl, Below.refl _ _⟩
  obtain ⟨b, o, rfl, hc⟩ := hs.2.2 (by omega)
  by_cases hb : bt bs 0 = 39
  · exact walkIn b o cap bs w hs h20 hT (by omega) hb
  · have n0 : ((bs.length : Int) == 0) = false := by rw [beq_eq_false_iff_ne]; omega
    have i0 : (0 : Int) < (bs.length : Int) := by omega
    have c0 := hc 0 (by omega)
    rw [Nat.add_zero] at c0
    have t0 : (((bt bs 0 : Nat) : Int) != 39) = true := by simp; omega
    clear hs hT hc hb h0
    go_enter Tryf.func6, Tryf.ntmps6
    go_wp2_with (first | (go_at_call 25; refine (bytes_yes _ bs.length cap w h20).mono ?_; rintro e w1 ⟨rfl, rfl⟩))
    go_ret
    exact ⟨rfl, Below.refl _ _⟩
theorem walk (w : World) (a : Option Addr) (len cap : Nat) (z : List Int) (h : IsRow .u8 w a len cap z) (hL : laidMet Tryf.prog Rows.fnScanRuneAcceptsExactlyOneCharRow.laid w) :
    Calls Tryf.prog 6 #[.slice a len cap] w fun e w' => e = .returned (.bool true) ∧ Below w.heap.size w w' := by
  have e := h.bytes_len
  have hm := h.len_le
  have hw := walk0 a cap (bytesOf len z) w h.src (by rw [e]; unfold maxLen at hm; omega) (tabs_of (Lib.laidMet.reads hL (.head _)) (Lib.laidMet.reads hL (.tail _ (.head _))))
  rwa [e] at hw
end Go.Proofs.YtpdfompeoceklaaFmt.RuneLaw
