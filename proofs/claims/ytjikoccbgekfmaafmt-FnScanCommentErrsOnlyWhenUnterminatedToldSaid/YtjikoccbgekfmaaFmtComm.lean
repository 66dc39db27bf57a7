/-
  Proved: (*Scanner).scanComment over a clean ASCII text: which errors it counts.
  Conditions: the text has no NUL and nothing beyond ASCII; the library's UTF-8 tables hold what the row lists.
-/
import Derived.Test.YtjikoccbgekfmaaFmtStrip
import Derived.Deep.LoopGhost
import Derived.Deep.QuietTactic
import Derived.BigQuiet
import Derived.WalkMore
import Derived.ScopeJumps
namespace Go.Proofs.YtjikoccbgekfmaaFmt.Core
open Go.ChangeShapes Go.WideShapes Go.ChangeAt Go.RowKit
set_option linter.unusedVariables false

/-- No NUL, nothing beyond ASCII. -/
def Clean (bs : List UInt8) : Prop := ∀ j, j < bs.length → 0 < bt bs j ∧ bt bs j < 128
theorem Clean.err {bs : List UInt8} (h : Clean bs) (p : Nat) : nxErr bs p = 0 := by
  by_cases hp : p < bs.length
  · exact nxErr_clean (h p hp).1 (h p hp).2
  · exact nxErr_end (by omega)
theorem Clean.rd {bs : List UInt8} (h : Clean bs) {p : Nat} (hp : p < bs.length) : nxCh bs p = (bt bs p : Int) ∧ nxRd bs p = p + 1 := nx_ascii hp (h p hp).2
/-- next over a clean text. -/
theorem clean_next {w0 : Base} {w : World} {S : Nat} {bs : List UInt8} {semi : Bool} {mode : Int} {p : Nat} {errs : Int} (h : Live w0 w S bs semi mode p errs) (hc : Clean bs) (hp : p < bs.length) (h0 : 0 ≤ errs) (h1 : errs < 4611686018427387904) :
    Calls Tryf.prog 21 #[.pointer (some ⟨S, 0, none⟩)] w fun e w' => e = .returned (.tuple #[]) ∧ Live w0 w' S bs semi mode (p + 1) errs := by
  refine (live_next h h0 h1).mono ?_
  rintro e w' ⟨rfl, hL, _⟩
  rw [(hc.rd hp).2, hc.err, Int.add_zero] at hL
  exact ⟨rfl, hL⟩
/-- What scanComment leaves. -/
def Commented (w0 : Base) (S : Nat) (bs : List UInt8) (semi : Bool) (mode : Int) (er : Int) (e : Ending) (w' : World) : Prop :=
  ∃ (str : ByteArray) (q : Nat), e = .returned (.string str) ∧ Live w0 w' S bs semi mode q er
/-- The frame at the label: the scanner, the count of carriage returns; the rest is scratch. -/
def AtExit (w0 : Base) (S : Nat) (bs : List UInt8) (semi : Bool) (mode : Int) (er : Int) (a : Act) (w : World) : Prop :=
  ∃ (n q : Nat) (u : Nat → Value), a = { tmps := #[.pointer (some ⟨S, 0, none⟩), undef, .string ⟨#[]⟩, .int .i64 0, .int .i64 n, u 5, undef, u 7, u 8, u 9, u 10, u 11, u 12, u 13, u 14, u 15, u 16, u 17, u 18, u 19, u 20, u 21, u 22, u 23, u 24, u 25, u 26, u 27, u 28, u 29, u 30, u 31, u 32, u 33, u 34, u 35, u 36, u 37, u 38, u 39, u 40, u 41, u 42, u 43, u 44, u 45, u 46, u 47, u 48, u 49, u 50, u 51, u 52, u 53, u 54, u 55, u 56, u 57, u 58, u 59, u 60, u 61, u 62, u 63, u 64, u 65, u 66, u 67, u 68, u 69, u 70, u 71, u 72, u 73, u 74, u 75, u 76, u 77, u 78, u 79, u 80, u 81, u 82, u 83, u 84, u 85, u 86, u 87, u 88, u 89, u 90, u 91, u 92, u 93, u 94, u 95, u 96, u 97, u 98, u 99, u 100, u 101, u 102, u 103, u 104, u 105, u 106, u 107, u 108, u 109, u 110, u 111, u 112, u 113, u 114, u 115, u 116, u 117, u 118, u 119], defers := [] } ∧ n ≤ q ∧ 2 ≤ q ∧ q ≤ bs.length ∧ Hid (Live w0 w S bs semi mode q er)
theorem AtExit.mk {w0 : Base} {S : Nat} {bs : List UInt8} {semi : Bool} {mode : Int} {er : Int} {w : World} {n q : Nat} {v5 v7 v8 v9 v10 v11 v12 v13 v14 v15 v16 v17 v18 v19 v20 v21 v22 v23 v24 v25 v26 v27 v28 v29 v30 v31 v32 v33 v34 v35 v36 v37 v38 v39 v40 v41 v42 v43 v44 v45 v46 v47 v48 v49 v50 v51 v52 v53 v54 v55 v56 v57 v58 v59 v60 v61 v62 v63 v64 v65 v66 v67 v68 v69 v70 v71 v72 v73 v74 v75 v76 v77 v78 v79 v80 v81 v82 v83 v84 v85 v86 v87 v88 v89 v90 v91 v92 v93 v94 v95 v96 v97 v98 v99 v100 v101 v102 v103 v104 v105 v106 v107 v108 v109 v110 v111 v112 v113 v114 v115 v116 v117 v118 v119 : Value} (h1 : n ≤ q) (h2 : 2 ≤ q) (h3 : q ≤ bs.length) (h4 : Hid (Live w0 w S bs semi mode q er)) :
    AtExit w0 S bs semi mode er { tmps := #[.pointer (some ⟨S, 0, none⟩), undef, .string ⟨#[]⟩, .int .i64 0, .int .i64 n, v5, undef, v7, v8, v9, v10, v11, v12, v13, v14, v15, v16, v17, v18, v19, v20, v21, v22, v23, v24, v25, v26, v27, v28, v29, v30, v31, v32, v33, v34, v35, v36, v37, v38, v39, v40, v41, v42, v43, v44, v45, v46, v47, v48, v49, v50, v51, v52, v53, v54, v55, v56, v57, v58, v59, v60, v61, v62, v63, v64, v65, v66, v67, v68, v69, v70, v71, v72, v73, v74, v75, v76, v77, v78, v79, v80, v81, v82, v83, v84, v85, v86, v87, v88, v89, v90, v91, v92, v93, v94, v95, v96, v97, v98, v99, v100, v101, v102, v103, v104, v105, v106, v107, v108, v109, v110, v111, v112, v113, v114, v115, v116, v117, v118, v119], defers := [] } w :=
  ⟨n, q, fun k => [undef, undef, undef, undef, undef, v5, undef, v7, v8, v9, v10, v11, v12, v13, v14, v15, v16, v17, v18, v19, v20, v21, v22, v23, v24, v25, v26, v27, v28, v29, v30, v31, v32, v33, v34, v35, v36, v37, v38, v39, v40, v41, v42, v43, v44, v45, v46, v47, v48, v49, v50, v51, v52, v53, v54, v55, v56, v57, v58, v59, v60, v61, v62, v63, v64, v65, v66, v67, v68, v69, v70, v71, v72, v73, v74, v75, v76, v77, v78, v79, v80, v81, v82, v83, v84, v85, v86, v87, v88, v89, v90, v91, v92, v93, v94, v95, v96, v97, v98, v99, v100, v101, v102, v103, v104, v105, v106, v107, v108, v109, v110, v111, v112, v113, v114, v115, v116, v117, v118, v119].getD k undef, rfl, h1, h2, h3, h4⟩
set_option maxHeartbeats 4000000 in
set_option maxRecDepth 100000 in
theorem line_any {w0 : Base} {w : World} {S : Nat} {bs : List UInt8} {semi : Bool} {mode : Int} {E : Int} (h : Live w0 w S bs semi mode 1 E) (hc : Clean bs) (h0 : 0 ≤ E) (h1 : E ≤ 1000000) (hl : 2 ≤ bs.length) (hb : bt bs 1 = 47) :
    Calls Tryf.prog 22 #[.pointer (some ⟨S, 0, none⟩)] w (Commented w0 S bs semi mode E) := by
  have c3 := h.off
  have c2 := h.ch
  have hlen := h.len
  rw [(hc.rd (by omega)).1, hb] at c2
  have C0 := Lib.hid (clean_next h hc (by omega) h0 (by omega))
  have HC := Lib.hid hc
  clear h hc
  go_enter Tryf.func22, Tryf.ntmps22
  go_wp2_with fail
  refine wp_scope_jumps 0 (AtExit w0 S bs semi mode E) (fun _ _ => 0) rfl ?_ ?_
  · go_wp2_with fail
    refine C0.out.mono ?_
    rintro e w1 ⟨rfl, hL1⟩
    have HL1 := Lib.hid hL1
    clear hL1 C0 c3 c2
    go_wp2_with fail
    go_loopg [4] (bs.length - 2) (fun g v wr => ∃ (q n : Nat), g = bs.length - q ∧ v = .int .i64 n ∧ n ≤ q ∧ 2 ≤ q ∧ q ≤ bs.length ∧ Hid (Live w0 wr S bs semi mode q E))
    case atStart => exact ⟨2, 0, rfl, rfl, by omega, by omega, by omega, HL1⟩
    case round =>
      obtain ⟨q, n, rfl, rfl, e1, e2, e3, HL⟩ := hrel
      have d2 := HL.out.ch
      by_cases hq : q < bs.length ∧ bt bs q ≠ 10
      · have hcl := HC.out q hq.1
        rw [(HC.out.rd hq.1).1] at d2
        have C := Lib.hid (clean_next HL.out HC.out hq.1 h0 (by omega))
        have t1 : (((bt bs q : Nat) : Int) != 10) = true := by simp; omega
        have t2 : decide ((0 : Int) ≤ ((bt bs q : Nat) : Int)) = true := decide_eq_true (by omega)
        by_cases k1 : bt bs q = 13
        · have t3 : (((bt bs q : Nat) : Int) == 13) = true := by rw [beq_iff_eq]; omega
          obtain ⟨hq1, _⟩ := hq
          clear k1
          generalize bt bs q = c at *
          go_wp2_with fail
          refine C.out.mono ?_
          rintro e w2 ⟨rfl, hL2⟩
          have HL2 := Lib.hid hL2
          clear hL2 C
          go_wp2_with fail
          go_roundg (bs.length - (q + 1))
          case measure => omega
          case rel => exact ⟨q + 1, n + 1, rfl, by go_num, by omega, by omega, by omega, HL2⟩
        · have t3 : (((bt bs q : Nat) : Int) == 13) = false := by rw [beq_eq_false_iff_ne]; omega
          obtain ⟨hq1, _⟩ := hq
          clear k1
          generalize bt bs q = c at *
          go_wp2_with fail
          refine C.out.mono ?_
          rintro e w2 ⟨rfl, hL2⟩
          have HL2 := Lib.hid hL2
          clear hL2 C
          go_wp2_with fail
          go_roundg (bs.length - (q + 1))
          case measure => omega
          case rel => exact ⟨q + 1, n, rfl, rfl, by omega, by omega, by omega, HL2⟩
      · by_cases k1 : q < bs.length
        · have k2 : bt bs q = 10 := by
            rcases Nat.decEq (bt bs q) 10 with hh | hh
            · exact absurd ⟨k1, hh⟩ hq
            · exact hh
          rw [(HC.out.rd k1).1, k2] at d2
          clear k2 hq
          go_wp2_with fail
          go_step3
          exact ⟨rfl, AtExit.mk e1 e2 e3 HL⟩
        · rw [(nx_end (by omega)).1] at d2
          clear hq
          go_wp2_with fail
          go_step3
          exact ⟨rfl, AtExit.mk e1 e2 e3 HL⟩
  · rintro a wx ⟨n, q, u, rfl, e1, e2, e3, HL⟩
    have d3 := HL.out.off
    obtain ⟨b, o, cap, g1, hcap, hcm, hcc⟩ := HL.out.text (by omega)
    have HCC := Lib.hid hcc
    have lc1 := hcc 1 (by omega)
    have b47 : (((bt bs 1 : Nat) : Int) == 47) = true := by rw [beq_iff_eq]; omega
    have b42 : (((bt bs 1 : Nat) : Int) == 42) = false := by rw [beq_eq_false_iff_ne]; omega
    have kc0 := fun m => conv_list (wx.drewN m) b o cap (sub bs 0 q) (fun j hj => by
      rw [sub_len e3] at hj
      rw [sub_bt hj, Nat.zero_add]
      exact HCC.out j (by omega))
    simp only [sub_len e3, Nat.sub_zero] at kc0
    clear hcc
    have i0 : (0 : Int) ≤ (q : Int) := by omega
    have i1 : (1 : Int) < (q : Int) := by omega
    have i2 : (q : Int) ≤ (cap : Int) := by omega
    have i3 : ¬ cap = 0 := by omega
    have t2 : decide ((2 : Int) ≤ (q : Int)) = true := decide_eq_true (by omega)
    by_cases kn : 0 < n
    · have tn : decide ((0 : Int) < (n : Int)) = true := decide_eq_true (by omega)
      have lcq := HCC.out (q - 1) (by omega)
      have hi1 : ((q : Int) - 1).toNat = q - 1 := by omega
      have hi2 : (1 : Int) ≤ (q : Int) := by omega
      by_cases kl : bt bs (q - 1) = 13
      · have tl : (((bt bs (q - 1) : Nat) : Int) == 13) = true := by rw [beq_iff_eq]; omega
        have q3 : 3 ≤ q := by
          rcases Nat.lt_or_ge q 3 with hh | hh
          · exfalso
            have : q - 1 = 1 := by omega
            rw [this] at kl
            omega
          · exact hh
        have j0 : (0 : Int) ≤ (q : Int) - 1 := by omega
        have j2 : (q : Int) - 1 ≤ (cap : Int) := by omega
        have j3 : (1 : Int) < (q : Int) - 1 := by omega
        have j4 : 1 < q - 1 := by omega
        clear kl
        by_cases kn1 : 1 < n
        · have tn1 : decide ((0 : Int) < (n : Int) - 1) = true := decide_eq_true (by omega)
          have KS := fun m => strip_any b o cap (sub bs 0 (q - 1)) false (wx.drewN m) (fun j hj => by
            rw [sub_len (by omega)] at hj
            rw [sub_bt hj, Nat.zero_add]
            exact HCC.out j (by omega)) (by rw [sub_len (by omega)]; have := HL.out.len; omega)
          simp only [sub_len (show q - 1 ≤ bs.length by omega), Nat.sub_zero] at KS
          have HKS := Lib.hid KS
          clear KS kc0
          go_wp2_with fail
          go_quiet (fail)
          go_wp2_with fail
          refine (HKS.out _).mono ?_
          rintro e w9 ⟨rfl, ho9, hc9⟩
          have kc9 := conv_list w9 _ 0 (sub bs 0 (q - 1)).length _ hc9
          have OB := Lib.hid (ho9.below (Nat.le_refl _) (by simp))
          simp only [World.heap_drewN] at kc9
          clear ho9 hc9 HKS
          go_wp2_with fail
          go_ret
          exact ⟨_, q, rfl, (HL.out.draws _).later OB.out⟩
        · have tn1 : decide ((0 : Int) < (n : Int) - 1) = false := decide_eq_false (by omega)
          have kc1 := fun m => conv_list (wx.drewN m) b o cap (sub bs 0 (q - 1)) (fun j hj => by
            rw [sub_len (by omega)] at hj
            rw [sub_bt hj, Nat.zero_add]
            exact HCC.out j (by omega))
          simp only [sub_len (show q - 1 ≤ bs.length by omega), Nat.sub_zero] at kc1
          clear kc0
          go_wp2_with fail
          go_quiet (fail)
          go_wp2_with fail
          go_ret
          exact ⟨_, q, rfl, HL.out.draws _⟩
      · have tl : (((bt bs (q - 1) : Nat) : Int) == 13) = false := by rw [beq_eq_false_iff_ne]; omega
        clear kl
        have KS := fun m => strip_any b o cap (sub bs 0 q) false (wx.drewN m) (fun j hj => by
          rw [sub_len e3] at hj
          rw [sub_bt hj, Nat.zero_add]
          exact HCC.out j (by omega)) (by rw [sub_len e3]; have := HL.out.len; omega)
        simp only [sub_len e3, Nat.sub_zero] at KS
        have HKS := Lib.hid KS
        clear KS kc0
        go_wp2_with fail
        go_quiet (fail)
        go_wp2_with fail
        refine (HKS.out _).mono ?_
        rintro e w9 ⟨rfl, ho9, hc9⟩
        have kc9 := conv_list w9 _ 0 (sub bs 0 q).length _ hc9
        have OB := Lib.hid (ho9.below (Nat.le_refl _) (by simp))
        simp only [World.heap_drewN] at kc9
        clear ho9 hc9 HKS
        go_wp2_with fail
        go_ret
        exact ⟨_, q, rfl, (HL.out.draws _).later OB.out⟩
    · have tn : decide ((0 : Int) < (n : Int)) = false := decide_eq_false (by omega)
      go_wp2_with fail
      go_quiet (fail)
      go_wp2_with fail
      go_ret
      exact ⟨_, q, rfl, HL.out.draws _⟩
/-- A later star and slash. -/
def closedF (bs : List UInt8) (i : Nat) : Bool :=
  if h : i + 1 < bs.length then (if bt bs i = 42 ∧ bt bs (i + 1) = 47 then true else closedF bs (i + 1)) else false
  termination_by bs.length - i
  decreasing_by omega
theorem closedF_yes {bs : List UInt8} {i : Nat} (h : i + 1 < bs.length) (h1 : bt bs i = 42) (h2 : bt bs (i + 1) = 47) : closedF bs i = true := by rw [closedF, dif_pos h, if_pos ⟨h1, h2⟩]
theorem closedF_no {bs : List UInt8} {i : Nat} (h : ¬ (i + 1 < bs.length ∧ bt bs i = 42 ∧ bt bs (i + 1) = 47)) : closedF bs i = closedF bs (i + 1) := by
  by_cases hi : i + 1 < bs.length
  · conv => lhs; rw [closedF]
    rw [dif_pos hi, if_neg (fun hh => h ⟨hi, hh.1, hh.2⟩)]
  · rw [closedF, dif_neg hi, closedF, dif_neg (by omega)]
theorem closedF_end {bs : List UInt8} {i : Nat} (h : bs.length ≤ i + 1) : closedF bs i = false := by rw [closedF, dif_neg (by omega)]
set_option maxHeartbeats 8000000 in
set_option maxRecDepth 100000 in
theorem block_any {w0 : Base} {w : World} {S : Nat} {bs : List UInt8} {semi : Bool} {mode : Int} {E er : Int} (h : Live w0 w S bs semi mode 1 E) (hc : Clean bs) (h0 : 0 ≤ E) (h1 : E ≤ 1000000) (hl : 2 ≤ bs.length) (hb : bt bs 1 = 42)
    (hY : closedF bs 2 = true → er = E) (hNo : closedF bs 2 = false → er = E + 1) :
    Calls Tryf.prog 22 #[.pointer (some ⟨S, 0, none⟩)] w (Commented w0 S bs semi mode er) := by
  have c3 := h.off
  have c2 := h.ch
  have hlen := h.len
  rw [(hc.rd (by omega)).1, hb] at c2
  have C0 := Lib.hid (clean_next h hc (by omega) h0 (by omega))
  have HC := Lib.hid hc
  have HY := Lib.hid hY
  have HNo := Lib.hid hNo
  clear h hc hY hNo
  go_enter Tryf.func22, Tryf.ntmps22
  go_wp2_with fail
  refine wp_scope_jumps 0 (AtExit w0 S bs semi mode er) (fun _ _ => 0) rfl ?_ ?_
  · go_wp2_with fail
    refine C0.out.mono ?_
    rintro e w1 ⟨rfl, hL1⟩
    have HL1 := Lib.hid hL1
    clear hL1 C0 c3 c2
    go_wp2_with fail
    go_loopg [4, 5] (bs.length - 2) (fun g v4 _ wr => ∃ (q n : Nat), g = bs.length - q ∧ v4 = .int .i64 n ∧ n ≤ q ∧ 2 ≤ q ∧ q ≤ bs.length ∧ Hid (Live w0 wr S bs semi mode q E) ∧ Hid (closedF bs q = closedF bs 2))
    case atStart => exact ⟨2, 0, rfl, rfl, by omega, by omega, by omega, HL1, Lib.hid rfl⟩
    case round =>
      obtain ⟨q, n, rfl, rfl, e1, e2, e3, HL, HE⟩ := hrel
      have d2 := HL.out.ch
      by_cases hq : q < bs.length
      · have hcl := HC.out q hq
        rw [(HC.out.rd hq).1] at d2
        have C := Lib.hid (clean_next HL.out HC.out hq h0 (by omega))
        have t2 : decide ((0 : Int) ≤ ((bt bs q : Nat) : Int)) = true := decide_eq_true (by omega)
        by_cases k42 : bt bs q = 42
        · have t13 : (((bt bs q : Nat) : Int) == 13) = false := by rw [beq_eq_false_iff_ne]; omega
          have t42 : (((bt bs q : Nat) : Int) == 42) = true := by rw [beq_iff_eq]; omega
          by_cases kc : q + 1 < bs.length ∧ bt bs (q + 1) = 47
          · have hyes := (HE.out).symm.trans (closedF_yes kc.1 k42 kc.2)
            have her := HY.out hyes
            have hx : nxCh bs (q + 1) = 47 := (nxCh_eq (c := 47) (by omega)).2 kc
            clear k42
            generalize bt bs q = c at *
            go_wp2_with fail
            refine C.out.mono ?_
            rintro e w2 ⟨rfl, hL2⟩
            have HL2 := Lib.hid hL2
            have x2 := hL2.ch
            clear hL2 C
            rw [hx] at x2
            have C2 := Lib.hid (clean_next HL2.out HC.out kc.1 h0 (by omega))
            clear hx hyes
            go_wp2_with fail
            refine C2.out.mono ?_
            rintro e w3 ⟨rfl, hL3⟩
            rw [← her] at hL3
            have HL3 := Lib.hid hL3
            clear hL3 C2 her
            go_wp2_with fail
            go_step3
            exact ⟨rfl, AtExit.mk (q := q + 1 + 1) (by omega) (by omega) (by omega) HL3⟩
          · have HE2 := Lib.hid ((closedF_no (bs := bs) (i := q) (fun hh => kc ⟨hh.1, hh.2.2⟩)).symm.trans HE.out)
            have hx : (nxCh bs (q + 1) == 47) = false := by
              rw [beq_eq_false_iff_ne]
              exact fun hh => kc ((nxCh_eq (c := 47) (by omega)).1 hh)
            clear k42 kc
            generalize bt bs q = c at *
            go_wp2_with fail
            refine C.out.mono ?_
            rintro e w2 ⟨rfl, hL2⟩
            have HL2 := Lib.hid hL2
            have x2 := hL2.ch
            clear hL2 C
            go_wp2_with fail
            go_roundg (bs.length - (q + 1))
            case measure => omega
            case rel => exact ⟨q + 1, n, rfl, rfl, by omega, by omega, by omega, HL2, HE2⟩
        · have t42 : (((bt bs q : Nat) : Int) == 42) = false := by rw [beq_eq_false_iff_ne]; omega
          have HE2 := Lib.hid ((closedF_no (bs := bs) (i := q) (fun hh => k42 hh.2.1)).symm.trans HE.out)
          by_cases k13 : bt bs q = 13
          · have t13 : (((bt bs q : Nat) : Int) == 13) = true := by rw [beq_iff_eq]; omega
            clear k42 k13
            generalize bt bs q = c at *
            go_wp2_with fail
            refine C.out.mono ?_
            rintro e w2 ⟨rfl, hL2⟩
            have HL2 := Lib.hid hL2
            have x2 := hL2.ch
            clear hL2 C
            go_wp2_with fail
            go_roundg (bs.length - (q + 1))
            case measure => omega
            case rel => exact ⟨q + 1, n + 1, rfl, by go_num, by omega, by omega, by omega, HL2, HE2⟩
          · have t13 : (((bt bs q : Nat) : Int) == 13) = false := by rw [beq_eq_false_iff_ne]; omega
            clear k42 k13
            generalize bt bs q = c at *
            go_wp2_with fail
            refine C.out.mono ?_
            rintro e w2 ⟨rfl, hL2⟩
            have HL2 := Lib.hid hL2
            have x2 := hL2.ch
            clear hL2 C
            go_wp2_with fail
            go_roundg (bs.length - (q + 1))
            case measure => omega
            case rel => exact ⟨q + 1, n, rfl, rfl, by omega, by omega, by omega, HL2, HE2⟩
      · have her := HNo.out ((HE.out).symm.trans (closedF_end (by omega)))
        rw [(nx_end (by omega)).1] at d2
        have CE := Lib.hid (live_error HL.out h0 (by omega))
        clear HL
        go_wp2_with fail
        refine (CE.out _ _).mono ?_
        rintro e w8 ⟨rfl, hL8⟩
        rw [← her] at hL8
        have HL := Lib.hid hL8
        clear hL8 CE her d2
        go_wp2_with fail
        go_step3
        have d3 := HL.out.off
        obtain ⟨b, o, cap, g1, hcap, hcm, hcc⟩ := HL.out.text (by omega)
        have HCC := Lib.hid hcc
        have lc1 := hcc 1 (by omega)
        have b47 : (((bt bs 1 : Nat) : Int) == 47) = false := by rw [beq_eq_false_iff_ne]; omega
        have b42 : (((bt bs 1 : Nat) : Int) == 42) = true := by rw [beq_iff_eq]; omega
        have kc0 := fun m => conv_list (w8.drewN m) b o cap (sub bs 0 q) (fun j hj => by
          rw [sub_len e3] at hj
          rw [sub_bt hj, Nat.zero_add]
          exact HCC.out j (by omega))
        simp only [sub_len e3, Nat.sub_zero] at kc0
        clear hcc
        have i0 : (0 : Int) ≤ (q : Int) := by omega
        have i1 : (1 : Int) < (q : Int) := by omega
        have i2 : (q : Int) ≤ (cap : Int) := by omega
        have i3 : ¬ cap = 0 := by omega
        have t2 : decide ((2 : Int) ≤ (q : Int)) = true := decide_eq_true (by omega)
        by_cases kn : 0 < n
        · have tn : decide ((0 : Int) < (n : Int)) = true := decide_eq_true (by omega)
          have KS := fun m => strip_any b o cap (sub bs 0 q) true (w8.drewN m) (fun j hj => by
            rw [sub_len e3] at hj
            rw [sub_bt hj, Nat.zero_add]
            exact HCC.out j (by omega)) (by rw [sub_len e3]; have := HL.out.len; omega)
          simp only [sub_len e3, Nat.sub_zero] at KS
          have HKS := Lib.hid KS
          clear KS kc0
          go_wp2_with fail
          go_quiet (fail)
          go_wp2_with fail
          refine (HKS.out _).mono ?_
          rintro e w9 ⟨rfl, ho9, hc9⟩
          have kc9 := conv_list w9 _ 0 (sub bs 0 q).length _ hc9
          have OB := Lib.hid (ho9.below (Nat.le_refl _) (by simp))
          simp only [World.heap_drewN] at kc9
          clear ho9 hc9 HKS
          go_wp2_with fail
          go_ret
          exact ⟨_, q, rfl, (HL.out.draws _).later OB.out⟩
        · have tn : decide ((0 : Int) < (n : Int)) = false := decide_eq_false (by omega)
          go_wp2_with fail
          go_quiet (fail)
          go_wp2_with fail
          go_ret
          exact ⟨_, q, rfl, HL.out.draws _⟩
  · rintro a wx ⟨n, q, u, rfl, e1, e2, e3, HL⟩
    have d3 := HL.out.off
    obtain ⟨b, o, cap, g1, hcap, hcm, hcc⟩ := HL.out.text (by omega)
    have HCC := Lib.hid hcc
    have lc1 := hcc 1 (by omega)
    have b47 : (((bt bs 1 : Nat) : Int) == 47) = false := by rw [beq_eq_false_iff_ne]; omega
    have b42 : (((bt bs 1 : Nat) : Int) == 42) = true := by rw [beq_iff_eq]; omega
    have kc0 := fun m => conv_list (wx.drewN m) b o cap (sub bs 0 q) (fun j hj => by
      rw [sub_len e3] at hj
      rw [sub_bt hj, Nat.zero_add]
      exact HCC.out j (by omega))
    simp only [sub_len e3, Nat.sub_zero] at kc0
    clear hcc
    have i0 : (0 : Int) ≤ (q : Int) := by omega
    have i1 : (1 : Int) < (q : Int) := by omega
    have i2 : (q : Int) ≤ (cap : Int) := by omega
    have i3 : ¬ cap = 0 := by omega
    have t2 : decide ((2 : Int) ≤ (q : Int)) = true := decide_eq_true (by omega)
    by_cases kn : 0 < n
    · have tn : decide ((0 : Int) < (n : Int)) = true := decide_eq_true (by omega)
      have KS := fun m => strip_any b o cap (sub bs 0 q) true (wx.drewN m) (fun j hj => by
        rw [sub_len e3] at hj
        rw [sub_bt hj, Nat.zero_add]
        exact HCC.out j (by omega)) (by rw [sub_len e3]; have := HL.out.len; omega)
      simp only [sub_len e3, Nat.sub_zero] at KS
      have HKS := Lib.hid KS
      clear KS kc0
      go_wp2_with fail
      go_quiet (fail)
      go_wp2_with fail
      refine (HKS.out _).mono ?_
      rintro e w9 ⟨rfl, ho9, hc9⟩
      have kc9 := conv_list w9 _ 0 (sub bs 0 q).length _ hc9
      have OB := Lib.hid (ho9.below (Nat.le_refl _) (by simp))
      simp only [World.heap_drewN] at kc9
      clear ho9 hc9 HKS
      go_wp2_with fail
      go_ret
      exact ⟨_, q, rfl, (HL.out.draws _).later OB.out⟩
    · have tn : decide ((0 : Int) < (n : Int)) = false := decide_eq_false (by omega)
      go_wp2_with fail
      go_quiet (fail)
      go_wp2_with fail
      go_ret
      exact ⟨_, q, rfl, HL.out.draws _⟩
end Go.Proofs.YtjikoccbgekfmaaFmt.Core
