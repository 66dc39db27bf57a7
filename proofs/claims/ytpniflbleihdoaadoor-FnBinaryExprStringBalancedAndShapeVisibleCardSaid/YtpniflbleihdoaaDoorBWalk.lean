/-
  Proved: the walk of FnBinaryExprStringBalancedAndShapeVisible: it returns true at every argument.
  Conditions: token.tokens starts as the program's text lays it.
-/
import Derived.Test.YtpniflbleihdoaaDoorBLaw
namespace Go.Proofs.YtpniflbleihdoaaDoor.Bin
open Go.ChangeShapes Go.WideShapes Go.ChangeAt Go.RowKit Core
set_option linter.unusedVariables false

theorem flat_of {s : ByteArray} (h : ∀ q (hq : q < s.size), (s[q]'hq).toNat ≠ 40 ∧ (s[q]'hq).toNat ≠ 41) : Flat s.data.toList := by
  intro c hc
  obtain ⟨q, hq, e⟩ := List.mem_iff_getElem.1 hc
  have hq' : q < s.size := by simpa using hq
  have h1 := h q hq'
  rw [getB s hq', e] at h1
  exact ⟨fun e1 => h1.1 (by rw [e1]; rfl), fun e1 => h1.2 (by rw [e1]; rfl)⟩
theorem lf_empty : Lf ByteArray.empty := ⟨by decide, fun c hc => by simp at hc⟩

set_option maxHeartbeats 8000000 in
set_option maxRecDepth 20000 in
theorem walk1 (A B : Option Addr) (n m cn cm : Nat) (fs : Nat → ByteArray) (fz : Nat → Int) (w : World) (hs : Strs w A n fs) (hz : Nums w B m fz) (hr : ∀ j, -9223372036854775808 ≤ fz j ∧ fz j ≤ 9223372036854775807) (hsz : ∀ j, (fs j).size ≤ 9223372036854775807) (hout : ∀ j, n ≤ j → fs j = ByteArray.empty) (hn : n ≤ 256) (hm : m ≤ 4096) (hN : Names w) :
    Calls Tryd.prog 4 #[.slice A n cn, .slice B m cm] w fun e w' => e = .returned (.bool true) ∧ Below w.heap.size w w' := by
  have BY := Lib.hid (bytes_any A B n m cn cm fs w hs (by omega) (by omega) hsz)
  have HS := Lib.hid hs
  have HZ := Lib.hid hz
  have HR := Lib.hid hr
  have HSZ := Lib.hid hsz
  have HOUT := Lib.hid hout
  have HN := Lib.hid hN
  clear hs hz hr hsz hout hN
  have d0 : decide ((256 : Int) < (n : Int)) = false := decide_eq_false (by omega)
  have d1 : decide ((4096 : Int) < (m : Int)) = false := decide_eq_false (by omega)
  go_enter Tryd.func4, Tryd.ntmps4
  go_wp2_with fail
  refine BY.out.mono ?_
  rintro e w0 ⟨⟨b, rfl⟩, rfl⟩
  cases b with
  | false =>
    go_wp2_with fail
    go_ret
    exact ⟨rfl, Below.refl _ _⟩
  | true =>
  go_wp2_with fail
  go_loop [5, 6] (fun vb vi => ∃ i nb : Nat, i ≤ n ∧ vi = .int .i64 i ∧ vb = .int .i64 nb ∧ nb ≤ i * 1048576 ∧ Hid (∀ j, j < i → (fs j).size ≤ 1048576)) (fun _ vi => n - (intOf vi).toNat)
  case atStart => exact ⟨0, 0, by omega, rfl, rfl, by omega, Lib.hid (fun j hj => by omega)⟩
  case round =>
    obtain ⟨i, nb, hi, rfl, rfl, hnb, HQ⟩ := hrel
    by_cases hlt : i < n
    · have hlt' : (i : Int) < (n : Int) := by omega
      obtain ⟨b, o, rfl, hc⟩ := HS.out (by omega)
      have hci : w.cell? ⟨b, o + i, none⟩ = some (.string (fs i)) := hc i hlt
      have hq := HSZ.out i
      obtain ⟨s, hs⟩ : ∃ s, s = fs i := ⟨_, rfl⟩
      rw [← hs] at hci hq
      have HSI := Lib.hid hs
      clear hc hs
      by_cases c1 : 1048576 < s.size
      · have e1 : decide ((1048576 : Int) < (s.size : Int)) = true := decide_eq_true (by omega)
        go_wp2_with fail
        go_ret
        exact ⟨rfl, Below.refl _ _⟩
      · have e1 : decide ((1048576 : Int) < (s.size : Int)) = false := decide_eq_false (by omega)
        go_wp2_with fail
        go_round
        case rel =>
          refine ⟨i + 1, nb + s.size, by omega, by go_num, by go_num, by omega, Lib.hid fun j hj => ?_⟩
          by_cases e : j = i
          · subst e; rw [← HSI.out]; omega
          · exact HQ.out j (by omega)
        case measure => simp [intOf]; omega
    · have hlt' : ¬ (i : Int) < (n : Int) := by omega
      have hin : i = n := by omega
      subst hin
      by_cases c1 : 65536 < nb
      · have e1 : decide ((65536 : Int) < (nb : Int)) = true := decide_eq_true (by omega)
        go_wp2_with fail
        go_ret
        exact ⟨rfl, Below.refl _ _⟩
      have e1 : decide ((65536 : Int) < (nb : Int)) = false := decide_eq_false (by omega)
      by_cases c2 : 1048576 < 8 * i + 8 * m + nb
      · have e2 : decide ((1048576 : Int) < 8 * (i : Int) + 8 * (m : Int) + (nb : Int)) = true := decide_eq_true (by omega)
        go_wp2_with fail
        go_ret
        exact ⟨rfl, Below.refl _ _⟩
      have e2 : decide ((1048576 : Int) < 8 * (i : Int) + 8 * (m : Int) + (nb : Int)) = false := decide_eq_false (by omega)
      by_cases c3 : i < 2
      · have e3 : decide ((i : Int) < 2) = true := decide_eq_true (by omega)
        go_wp2_with fail
        go_ret
        exact ⟨rfl, Below.refl _ _⟩
      have e3 : decide ((i : Int) < 2) = false := decide_eq_false (by omega)
      by_cases c4 : m < i - 1
      · have e4 : decide ((m : Int) < (i : Int) - 1) = true := decide_eq_true (by omega)
        go_wp2_with fail
        go_ret
        exact ⟨rfl, Below.refl _ _⟩
      have e4 : decide ((m : Int) < (i : Int) - 1) = false := decide_eq_false (by omega)
      obtain ⟨b, o, rfl, hc⟩ := HS.out (by omega)
      have HC := Lib.hid hc
      clear hc
      go_wp2_with fail
      go_loop [8, 9, 10] (fun vi _ _ => ∃ p : Nat, p ≤ i ∧ vi = .int .i64 p ∧ Hid (∀ j, j < p → Flat (fs j).data.toList)) (fun vi _ _ => i - (intOf vi).toNat)
      case atStart => exact ⟨0, by omega, rfl, Lib.hid (fun j hj => by omega)⟩
      case round =>
        obtain ⟨p, hp, rfl, HF⟩ := hrel
        by_cases hlt2 : p < i
        · have hlt2' : (p : Int) < (i : Int) := by omega
          have hcp : w.cell? ⟨b, o + p, none⟩ = some (.string (fs p)) := HC.out p hlt2
          have hq := HSZ.out p
          obtain ⟨s, hs⟩ : ∃ s, s = fs p := ⟨_, rfl⟩
          rw [← hs] at hcp hq
          have HSP := Lib.hid hs
          clear hs
          go_wp2_with fail
          go_loop [10] (fun vj => ∃ j : Nat, j ≤ s.size ∧ vj = .int .i64 j ∧ Hid (∀ q (h : q < s.size), q < j → (s[q]'h).toNat ≠ 40 ∧ (s[q]'h).toNat ≠ 41)) (fun vj => s.size - (intOf vj).toNat)
          case atStart => exact ⟨0, by omega, rfl, Lib.hid (fun q h hq => by omega)⟩
          case round =>
            obtain ⟨j, hj, rfl, HG⟩ := hrel
            by_cases hlt3 : j < s.size
            · have hlt3' : (j : Int) < (s.size : Int) := by omega
              by_cases q1 : (s[j]'hlt3).toNat = 40
              · have t1 : (((s[j]'hlt3).toNat : Int) == 40) = true := by rw [beq_iff_eq]; omega
                go_wp2_with fail
                go_ret
                exact ⟨rfl, Below.refl _ _⟩
              have t1 : (((s[j]'hlt3).toNat : Int) == 40) = false := by rw [beq_eq_false_iff_ne]; omega
              by_cases q2 : (s[j]'hlt3).toNat = 41
              · have t2 : (((s[j]'hlt3).toNat : Int) == 41) = true := by rw [beq_iff_eq]; omega
                go_wp2_with fail
                go_ret
                exact ⟨rfl, Below.refl _ _⟩
              have t2 : (((s[j]'hlt3).toNat : Int) == 41) = false := by rw [beq_eq_false_iff_ne]; omega
              have Q1 := Lib.hid q1
              have Q2 := Lib.hid q2
              clear q1 q2
              go_wp2_with fail
              go_round
              case rel =>
                refine ⟨j + 1, by omega, by go_num, Lib.hid fun q h hq => ?_⟩
                by_cases e : q = j
                · subst e; exact ⟨Q1.out, Q2.out⟩
                · exact HG.out q h (by omega)
              case measure => simp [intOf]; omega
            · have hlt3' : ¬ (j : Int) < (s.size : Int) := by omega
              go_wp2_with fail
              go_round
              case rel =>
                refine ⟨p + 1, by omega, by go_num, Lib.hid fun q hq => ?_⟩
                by_cases e : q = p
                · subst e
                  rw [← HSP.out]
                  exact flat_of fun q h => HG.out q h (by omega)
                · exact HF.out q (by omega)
              case measure => simp [intOf]; omega
        · have hlt2' : ¬ (p : Int) < (i : Int) := by omega
          have hpi : p = i := by omega
          subst hpi
          go_wp2_with fail
          have HLf : Hid (∀ j, Lf (fs j)) := Lib.hid fun j => by
            by_cases hj : j < p
            · exact ⟨HQ.out j hj, HF.out j hj⟩
            · rw [HOUT.out j (by omega)]; exact lf_empty
          clear HQ HF HOUT HSZ
          obtain ⟨b2, o2, rfl, hz⟩ := HZ.out (by omega)
          have HZ2 := Lib.hid hz
          clear hz
          refine (cloneS b o p cn fs w HC.out (by omega)).mono ?_
          rintro e w1 ⟨G1, rfl, r1, s1⟩
          have R1 := Lib.hid r1
          have S1 := Lib.hid s1
          clear r1 s1
          go_wp2_with fail
          refine (cloneI b2 o2 m cm fz w1 (HZ2.out.keep S1.out (by simp)) (by omega)).mono ?_
          rintro e w2 ⟨G2, rfl, r2, s2⟩
          have R2 := Lib.hid r2
          have R12 := Lib.hid (R1.out.keep s2 (by simp))
          have S2 := Lib.hid (S1.out.next s2 (by simp))
          clear r2 s2 R1 S1
          go_wp2_with fail
          refine (build_left G1 G2 p m p m fs fz w2 R12.out R2.out HR.out (by omega) (by omega) (by omega) (by omega)).mono ?_
          rintro e w3 ⟨N1, g1, rfl, k1, I1, s3⟩
          have K1 := Lib.hid k1
          have II1 := Lib.hid I1
          have S3 := Lib.hid s3
          clear k1 I1 s3
          go_wp2_with fail
          refine (build_right G1 G2 p m p m fs fz w3 (R12.out.keep S3.out (by simp)) (R2.out.keep S3.out (by simp)) HR.out (by omega) (by omega) (by omega) (by omega)).mono ?_
          rintro e w4 ⟨N2, g2, rfl, k2, I2, s4⟩
          have k1 := s4.cell K1.out (by simp)
          have II1b := Lib.hid (InM.keep s4 (by simp) II1.out)
          have II2 := Lib.hid I2
          have S4 := Lib.hid ((S2.out.next S3.out (by simp)).next s4 (by simp))
          have HN4 := Lib.hid (HN.out.below (S4.out.below (Nat.le_refl _) (by simp)))
          clear I2 s4 K1 II1 S2 S3
          obtain ⟨l1, l2, l3, l4, l5, l6⟩ := ends_of HLf.out (fun j => op_tk (fz j)) (show 2 ≤ p by omega) hn
          have Z1 := Ex.size l1
          have Z2 := Ex.size l3
          have GR1 := Ex.grp l1
          have GR2 := Ex.grp l3
          rw [l2] at GR1 Z1
          rw [l4] at GR2 Z2
          have ST1 := Lib.hid (fun j => expr_str _ _ g1 (w4.drewN j) (InM.keep ((Only.refl w4 []).draws j) (by simp) II1b.out) (HN4.out : Names (w4.drewN j)) l1 (by rw [l2]; omega))
          have ST2 := Lib.hid (fun j => expr_str _ _ g2 (w4.drewN j) (InM.keep ((Only.refl w4 []).draws j) (by simp) II2.out) (HN4.out : Names (w4.drewN j)) l3 (by rw [l4]; omega))
          have L5 := Lib.hid l5
          have L6 := Lib.hid l6
          generalize (leftE fs (fun j => opAt (fz j)) (p - 2)).tx = TL at *
          generalize (rightE fs (fun j => opAt (fz j)) p (p - 2)).tx = TR at *
          have G1' := Lib.hid (fun X => group_any TL (p - 1) X GR1 (by omega))
          have G2' := Lib.hid (fun X => group_any TR (p - 1) X GR2 (by omega))
          clear l1 l2 l3 l4 l5 l6 GR1 GR2 II1b II2 HN4 HLf
          have x1 : ((p - 1 : Nat) : Int) - 1 = ((p - 2 : Nat) : Int) := by omega
          have x2 : ((p - 2 : Nat) : Int) < ((p - 1 : Nat) : Int) := by omega
          have x3 : (p : Int) - 1 = ((p - 1 : Nat) : Int) := by omega
          go_wp2_with fail
          refine (ST1.out 0).mono ?_
          rintro e x ⟨rfl, j1, rfl⟩
          go_wp2_with fail
          refine (ST2.out j1).mono ?_
          rintro e x ⟨rfl, j2, rfl⟩
          by_cases h2 : p = 2
          · have t1 : ((p : Int) == 2) = true := by rw [beq_iff_eq]; omega
            have t2 := L5.out h2
            clear h2
            go_wp2_with (first | (go_at_call 19; with_reducible refine (G1'.out _).mono ?_; rintro e y ⟨rfl, rfl⟩) | (go_at_call 19; with_reducible refine (G2'.out _).mono ?_; rintro e y ⟨rfl, rfl⟩))
            go_ret
            exact ⟨by first | rfl | simp [t2], by first | exact (S4.out.draws _).below (Nat.le_refl _) (by simp) | exact ((S4.out.draws _).draws _).below (Nat.le_refl _) (by simp)⟩
          · have t1 : ((p : Int) == 2) = false := by rw [beq_eq_false_iff_ne]; omega
            have t2 := L6.out h2
            go_wp2_with (first | (go_at_call 19; with_reducible refine (G1'.out _).mono ?_; rintro e y ⟨rfl, rfl⟩) | (go_at_call 19; with_reducible refine (G2'.out _).mono ?_; rintro e y ⟨rfl, rfl⟩))
            go_ret
            exact ⟨by first | rfl | simp [t2], by first | exact (S4.out.draws _).below (Nat.le_refl _) (by simp) | exact ((S4.out.draws _).draws _).below (Nat.le_refl _) (by simp)⟩

theorem walk0 (A B : Option Addr) (n m cn cm : Nat) (fs : Nat → ByteArray) (fz : Nat → Int) (w : World) (hs : Strs w A n fs) (hz : Nums w B m fz) (hr : ∀ j, -9223372036854775808 ≤ fz j ∧ fz j ≤ 9223372036854775807) (hsz : ∀ j, (fs j).size ≤ 9223372036854775807) (hout : ∀ j, n ≤ j → fs j = ByteArray.empty) (hn : n ≤ 9223372036854775807) (hm : m ≤ 9223372036854775807) (hN : Names w) :
    Calls Tryd.prog 4 #[.slice A n cn, .slice B m cm] w fun e w' => e = .returned (.bool true) ∧ Below w.heap.size w w' := by
  by_cases c1 : n ≤ 256
  · by_cases c2 : m ≤ 4096
    · exact walk1 A B n m cn cm fs fz w hs hz hr hsz hout c1 c2 hN
    · have BY := Lib.hid (bytes_any A B n m cn cm fs w hs hn hm hsz)
      clear hs hz hr hsz hout hN
      have d0 : decide ((256 : Int) < (n : Int)) = false := decide_eq_false (by omega)
      have d1 : decide ((4096 : Int) < (m : Int)) = true := decide_eq_true (by omega)
      go_enter Tryd.func4, Tryd.ntmps4
      go_wp2_with fail
      refine BY.out.mono ?_
      rintro e w0 ⟨⟨b, rfl⟩, rfl⟩
      cases b with
      | false =>
        go_wp2_with fail
        go_ret
        exact ⟨rfl, Below.refl _ _⟩
      | true =>
        go_wp2_with fail
        go_ret
        exact ⟨rfl, Below.refl _ _⟩
  · have BY := Lib.hid (bytes_any A B n m cn cm fs w hs hn hm hsz)
    clear hs hz hr hsz hout hN
    have d0 : decide ((256 : Int) < (n : Int)) = true := decide_eq_true (by omega)
    go_enter Tryd.func4, Tryd.ntmps4
    go_wp2_with fail
    refine BY.out.mono ?_
    rintro e w0 ⟨⟨b, rfl⟩, rfl⟩
    cases b with
    | false =>
      go_wp2_with fail
      go_ret
      exact ⟨rfl, Below.refl _ _⟩
    | true =>
      go_wp2_with fail
      go_ret
      exact ⟨rfl, Below.refl _ _⟩

/-- A slice of integers, of strings that came in: nil, or a row of cells (the spare ones too). -/
def IsRow (k : IntKind) (w : World) (a : Option Addr) (len cap : Nat) (zs : List Int) : Prop :=
  (a = none ∧ len = 0 ∧ cap = 0 ∧ zs = []) ∨ ∃ x, a = some x ∧ len ≤ cap ∧ cap ≤ maxLen ∧ zs.length = cap ∧ (∀ i, i < zs.length → w.cell? (x.add i) = some (.int k (zs.getD i 0))) ∧ ∀ n ∈ zs, (Lit.int k n).wf = true
def IsStrs (w : World) (a : Option Addr) (len cap : Nat) (zs : List ByteArray) : Prop :=
  (a = none ∧ len = 0 ∧ cap = 0 ∧ zs = []) ∨ ∃ x, a = some x ∧ len ≤ cap ∧ cap ≤ maxLen ∧ zs.length = cap ∧ (∀ i, i < zs.length → w.cell? (x.add i) = some (.string (zs.getD i ByteArray.empty))) ∧ ∀ s ∈ zs, s.size ≤ maxLen
theorem addr_plain {w : World} {x : Addr} {v : Value} (h : w.cell? (x.add 0) = some v) : ∃ b o, x = ⟨b, o, none⟩ := by
  obtain ⟨b, o, sp⟩ := x
  have hs : sp = none := by
    unfold World.cell? Addr.add at h
    cases sp with
    | none => rfl
    | some y => simp at h; split at h <;> simp at h
  subst hs
  exact ⟨b, o, rfl⟩
theorem IsStrs.strs {w : World} {a : Option Addr} {len cap : Nat} {zs : List ByteArray} (h : IsStrs w a len cap zs) : Strs w a len (fun j => (zs.take len).getD j ByteArray.empty) ∧ (∀ j, ((zs.take len).getD j ByteArray.empty).size ≤ 9223372036854775807) ∧ (∀ j, len ≤ j → (zs.take len).getD j ByteArray.empty = ByteArray.empty) ∧ len ≤ 9223372036854775807 := by
  rcases h with ⟨_, rfl, _, rfl⟩ | ⟨x, rfl, h1, h2, h3, h4, h5⟩
  · refine ⟨fun h => absurd h (by omega), fun j => ?_, fun j _ => ?_, by omega⟩
    · simp
    · simp
  · unfold maxLen at h2 h5
    have hl : (zs.take len).length = len := by rw [List.length_take]; omega
    refine ⟨fun hp => ?_, fun j => ?_, fun j hj => ?_, by omega⟩
    · obtain ⟨b, o, rfl⟩ := addr_plain (h4 0 (by omega))
      refine ⟨b, o, rfl, fun j hj => ?_⟩
      have := h4 j (by omega)
      rw [Addr.add_lit] at this
      rw [this]
      simp only [List.getD_eq_getElem?_getD]
      rw [List.getElem?_take, if_pos hj]
    · by_cases hj : j < len
      · rw [List.getD_eq_getElem?_getD, List.getElem?_eq_getElem (by omega), Option.getD_some]
        have := h5 _ (List.mem_of_mem_take (List.getElem_mem (l := zs.take len) (n := j) (by omega)))
        omega
      · rw [List.getD_eq_getElem?_getD, List.getElem?_eq_none (by omega)]
        simp
    · rw [List.getD_eq_getElem?_getD, List.getElem?_eq_none (by omega)]
      rfl
theorem IsRow.nums {w : World} {a : Option Addr} {len cap : Nat} {zs : List Int} (h : IsRow .i64 w a len cap zs) : Nums w a len (fun j => (zs.take len).getD j 0) ∧ (∀ j, -9223372036854775808 ≤ (zs.take len).getD j 0 ∧ (zs.take len).getD j 0 ≤ 9223372036854775807) ∧ len ≤ 9223372036854775807 := by
  rcases h with ⟨_, rfl, _, rfl⟩ | ⟨x, rfl, h1, h2, h3, h4, h5⟩
  · refine ⟨fun h => absurd h (by omega), fun j => ?_, by omega⟩
    simp
  · unfold maxLen at h2
    have hl : (zs.take len).length = len := by rw [List.length_take]; omega
    refine ⟨fun hp => ?_, fun j => ?_, by omega⟩
    · obtain ⟨b, o, rfl⟩ := addr_plain (h4 0 (by omega))
      refine ⟨b, o, rfl, fun j hj => ?_⟩
      have := h4 j (by omega)
      rw [Addr.add_lit] at this
      rw [this]
      simp only [List.getD_eq_getElem?_getD]
      rw [List.getElem?_take, if_pos hj]
    · by_cases hj : j < len
      · rw [List.getD_eq_getElem?_getD, List.getElem?_eq_getElem (by omega), Option.getD_some]
        have := h5 _ (List.mem_of_mem_take (List.getElem_mem (l := zs.take len) (n := j) (by omega)))
        simpa [Lit.wf, IntKind.min, IntKind.max, IntKind.signed, IntKind.bits] using this
      · rw [List.getD_eq_getElem?_getD, List.getElem?_eq_none (by omega)]
        simp
theorem walk (w : World) (a0 : Option Addr) (len0 cap0 : Nat) (z0 : List ByteArray) (a1 : Option Addr) (len1 cap1 : Nat) (z1 : List Int) (h0 : IsStrs w a0 len0 cap0 z0) (h1 : IsRow .i64 w a1 len1 cap1 z1) (hL : laidMet Tryd.prog Rows.fnBinaryExprStringBalancedAndShapeVisibleRow.laid w) :
    Calls Tryd.prog 4 #[.slice a0 len0 cap0, .slice a1 len1 cap1] w fun e w' => e = .returned (.bool true) ∧ Below w.heap.size w w' := by
  obtain ⟨s1, s2, s3, s4⟩ := h0.strs
  obtain ⟨i1, i2, i3⟩ := h1.nums
  exact walk0 a0 a1 len0 len1 cap0 cap1 _ _ w s1 i1 i2 s2 s3 s4 i3 (names_of (Lib.laidMet.reads hL (.tail _ (.tail _ (.tail _ (.head _))))))
end Go.Proofs.YtpniflbleihdoaaDoor.Bin
