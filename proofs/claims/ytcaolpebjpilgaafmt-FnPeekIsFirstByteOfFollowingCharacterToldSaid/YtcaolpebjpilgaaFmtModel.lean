/-
  Proved: n002_96's zzModelChars makes the list of the text's characters.
  Conditions: at most 65536 bytes.
-/
import Derived.Test.YtcaolpebjpilgaaFmtChars
import Derived.Deep.DeepCutAuto
import Derived.Deep.CutBlock
namespace Go.Proofs.YtcaolpebjpilgaaFmt.Dec96
open Go.ChangeShapes Go.WideShapes Go.ChangeAt Go.RowKit Core
set_option linter.unusedVariables false

/-- A row of records of three cells that the call itself has made. -/
def Own3 (B : Nat) (v : Value) (n : Nat) (xs : List Value) (W0 w : World) : Prop := w.ownsRowF B 40 3 v n xs ∧ Below B W0 w ∧ B ≤ w.heap.size
theorem Own3.below {B : Nat} {v : Value} {n : Nat} {xs : List Value} {W0 w : World} (h : Own3 B v n xs W0 w) : Below B W0 w := h.2.1
theorem append3 {ops : Array Oper} {rest : List Oper} {o : Oper} {a : Act} {Q : Exit → Act → World → Prop} (hgd : o.guard = none) (s x : Operand)
    (ho : o.op = .call { callee := .builtin .append, args := #[s, x], argTypes := #[34, 34] })
    (B : Nat) (i : TypeInfo) (hi : Tryf.prog.info? 40 = some i) (hz : i.zero = some (.agg #[.int .i64 0, .int .i32 0, .bool false])) (hsize : i.size = 3) (hby : i.bytes = 16)
    (v : Value) (n : Nat) (xs : List Value) (hs : a.eval s = v) (W0 w0 : World) (p q : Int) (r : Bool) (hb : Own3 B v n xs W0 w0)
    (hx : a.eval x = .slice (some ⟨w0.heap.size, 0, none⟩) 1 1) (hlen : n + 1 ≤ 1000000)
    (h : ∀ v' w', Own3 B v' (n + 1) (xs ++ [.int .i64 p, .int .i32 q, .bool r]) W0 w' → wpList Tryf.prog ops Q rest (a.put o.dst v') w') :
    wpList Tryf.prog ops Q (o :: rest) a (w0.alloc (.cells #[.int .i64 p, .int .i32 q, .bool r] 40)) := by
  have hb1 := hb.1.alloc (.cells #[.int .i64 p, .int .i32 q, .bool r] 40)
  have hb2 := hb.2.1.alloc hb.2.2 (.cells #[.int .i64 p, .int .i32 q, .bool r] 40)
  have hb3 : B ≤ (w0.alloc (.cells #[.int .i64 p, .int .i32 q, .bool r] 40)).heap.size := Nat.le_trans hb.2.2 ((Below.refl 0 w0).alloc (Nat.zero_le _) _).size
  refine wpList_append_ownF _ hgd s x _ ho B _ i (.agg #[.int .i64 0, .int .i32 0, .bool false]) 3 16 Tryf.underlying34 hi hz hsize hby rfl (by decide) v n xs hs hb1 ⟨w0.heap.size, 0, none⟩ 1 1 [.int .i64 p, .int .i32 q, .bool r] hx rfl ?_ ?_ (by unfold maxLen; omega) (by omega) hb3 ?_
  · intro j u hj
    match j, hj with
    | 0, hj => simp at hj; subst hj; simp [Addr.add]
    | 1, hj => simp at hj; subst hj; simp [Addr.add]
    | 2, hj => simp at hj; subst hj; simp [Addr.add]
    | (j + 3), hj => simp at hj
  · intro u hu
    simp at hu
    rcases hu with rfl | rfl | rfl <;> rfl
  · intro v' w' ho' hg _
    exact h v' w' ⟨ho', hb2.grown hg hb3 (fun k hk => (hb1.lt k hk).1), Nat.le_trans hb3 hg.size⟩
theorem recInfo : (Tryf.prog.info? 40).map (fun i => (i.zero, i.size, i.bytes)) = some (some (.agg #[.int .i64 0, .int .i32 0, .bool false]), 3, 16) := by kernel_rfl
theorem info_parts3 {P : Program} {t : TypeId} {z : Value} {a b : Nat} (h : (P.info? t).map (fun i => (i.zero, i.size, i.bytes)) = some (some z, a, b)) : ∃ i, P.info? t = some i ∧ i.zero = some z ∧ i.size = a ∧ i.bytes = b := by
  obtain ⟨i, h1, h2⟩ := Option.map_eq_some_iff.1 h
  simp only [Prod.mk.injEq] at h2
  exact ⟨i, h1, h2.1, h2.2.1, h2.2.2⟩

/-- What is still to come at place i. -/
def todo (bs : List UInt8) (i : Nat) : List Nat := if i = 0 then chars bs else chs bs bs.length i
theorem todo_skip {bs : List UInt8} (h : 0 < bs.length) (hb : (dec bs 0).1 = 65279) : todo bs (0 + (dec bs 0).2) = todo bs 0 ∧ 0 + (dec bs 0).2 ≤ bs.length := by
  have e : bom bs = (dec bs 0).2 := by unfold bom; rw [if_pos ⟨h, hb⟩]
  have hw := dec_width bs h
  unfold todo chars
  rw [if_neg (by omega), if_pos rfl, e, Nat.zero_add]
  exact ⟨rfl, by omega⟩
theorem todo_next {bs : List UInt8} {i : Nat} (h : i < bs.length) (hb : ¬ (i = 0 ∧ (dec bs 0).1 = 65279)) : todo bs i = i :: todo bs (i + (dec bs i).2) ∧ i + (dec bs i).2 ≤ bs.length := by
  have hw := dec_width bs h
  have e1 : nxRd bs i = i + (dec bs i).2 := by unfold nxRd; rw [if_pos h]
  have e2 : todo bs i = chs bs bs.length i := by
    unfold todo
    split
    · rename_i h0
      subst h0
      have : bom bs = 0 := by unfold bom; rw [if_neg (fun hh => hb ⟨rfl, hh.2⟩)]
      unfold chars
      rw [this]
    · rfl
  rw [e2, chs_cons h (by omega), e1]
  refine ⟨?_, by omega⟩
  congr 1
  unfold todo
  rw [if_neg (by omega)]
  exact chs_fuel (by omega) (by omega)
theorem todo_end {bs : List UInt8} {i : Nat} (h : bs.length ≤ i) : todo bs i = [] := by
  unfold todo chars
  have := bom_le bs
  split
  · rename_i h0; subst h0; rw [chs_end (by omega)]
  · exact chs_end h

set_option maxHeartbeats 4000000 in
set_option maxRecDepth 20000 in
/-- zzModelChars, at a text that is not nil. -/
theorem model_some (b o cap : Nat) (bs : List UInt8) (w : World) (h : Row w b o cap bs) (hn : bs.length ≤ 65536) :
    Calls Tryf.prog 18 #[.slice (some ⟨b, o, none⟩) bs.length cap] w fun e w' => ∃ v, e = .returned v ∧ Own3 w.heap.size v (chars bs).length (recs bs (chars bs)) w w' := by
  obtain ⟨i0, hi, hz0, hz1, hz2⟩ := info_parts3 recInfo
  have HR := Lib.hid h
  clear h
  go_enter Tryf.func18, Tryf.ntmps18
  go_wp2_with (first
    | (at_make; refine wpList_make_own _ rfl _ _ 34 rfl w.heap.size 40 i0 (.agg #[.int .i64 0, .int .i32 0, .bool false]) 3 Tryf.underlying34 hi hz0 hz1 _ _ _ bs.length rfl rfl (by first | rfl | assumption) (by rw [hz2]; omega) (by unfold maxLen; omega) (Nat.le_refl _) ?_; intro w1 hown hg
       have hb : Own3 w.heap.size (.slice (some ⟨w.heap.size, 0, none⟩) 0 bs.length) 0 [] w w1 := ⟨World.ownsRowF_of hown, (Below.refl _ _).grown hg (Nat.le_refl _) (by intro k hk; cases hk), hg.size⟩
       clear hown hg))
  have Hb0 := Lib.hid hb
  clear hb
  go_loopw [3, 4, 5, 6, 7] (fun vo vi _ _ _ wr => ∃ (i : Nat) (acc : List Nat), i ≤ bs.length ∧ vi = .int .i64 i ∧ acc.length ≤ i ∧ Hid (Own3 w.heap.size vo acc.length (recs bs acc) w wr) ∧ Hid (acc ++ todo bs i = chars bs)) (fun _ vi _ _ _ _ => bs.length - (intOf vi).toNat)
  case atStart => exact ⟨0, [], by omega, rfl, Nat.le_refl _, Hb0, Lib.hid (by simp [todo])⟩
  case round =>
    obtain ⟨i, acc, hle, rfl, hal, HO, HE⟩ := hrel
    by_cases hlt : i < bs.length
    · have hlt' : (i : Int) < (bs.length : Int) := by omega
      have hrow : Row wr b o cap bs := fun j hj => (HO.out.below.cell (World.block_lt_of_cell? w _ (HR.out j hj))).trans (HR.out j hj)
      have C := Lib.hid (decode_any b o cap bs i wr hlt (by omega) hrow)
      have hw := dec_width bs hlt
      have hr := dec_rune bs i
      clear hrow
      go_upto_region 5 with (go_at_call 36; refine C.out.mono ?_; rintro e w2 ⟨rfl, rfl⟩)
      clear C
      generalize hR : (dec bs i).1 = R at *
      generalize hW : (dec bs i).2 = W at *
      by_cases hskip : i = 0 ∧ R = 65279
      · obtain ⟨rfl, rfl⟩ := hskip
        have hs := todo_skip hlt hR
        rw [hW] at hs
        have h0 : acc = [] := List.length_eq_zero_iff.1 (by omega)
        subst h0
        have HE2 := Lib.hid (show [] ++ todo bs (0 + W) = chars bs by rw [hs.1]; exact HE.out)
        have hs2 := hs.2
        clear hs hR hW
        go_wp2_with fail
        go_roundw
        case rel => exact ⟨0 + W, [], by omega, by simp, by simp, HO, HE2⟩
        case measure => simp [intOf]; omega
      · have hs := todo_next hlt (fun hh => hskip ⟨hh.1, by rw [← hR, hh.1]; exact hh.2⟩)
        rw [hW] at hs
        have HE2 := Lib.hid (show (acc ++ [i]) ++ todo bs (i + W) = chars bs by rw [List.append_assoc]; show acc ++ (i :: todo bs (i + W)) = _; rw [← hs.1]; exact HE.out)
        have hs2 := hs.2
        clear hs
        have t26 : (decide (i = 0) && decide (R = 65279)) = false := by
          rw [← Bool.decide_and]; exact decide_eq_false hskip
        go_upto_region 5 with (fail)
        go_cut [26] (fun s wx => wr = wx ∧ s = .bool false)
        case first =>
          by_cases k0 : i = 0
          · have k1 : ((R : Int) == 65279) = false := by simp; omega
            have k2 : ((i : Int) == 0) = true := by simp; omega
            clear t26 hskip k0
            go_wp2_with fail
            go_meet
            exact ⟨rfl, rfl⟩
          · have k2 : ((i : Int) == 0) = false := by simp; omega
            clear t26 hskip
            go_wp2_with fail
            go_meet
            exact ⟨rfl, rfl⟩
        case rest =>
          obtain ⟨rfl, rfl⟩ := hcut
          clear t26 hskip
          go_upto_region 7 with (fail)
          have HBd := Lib.hid (show badM bs i = decide (R = 0 ∨ (R = 65533 ∧ W = 1) ∨ R = 65279) by unfold badM; rw [hR, hW])
          go_cut [7] (fun s wx => wr = wx ∧ s = .bool (badM bs i))
          case first =>
            by_cases q0 : R = 0
            · have E := Lib.hid (show badM bs i = true by rw [HBd.out]; exact decide_eq_true (.inl q0))
              subst q0
              go_wp2_with fail
              go_meet
              exact ⟨rfl, by rw [E.out]⟩
            · have n0 : ((R : Int) == 0) = false := by simp; omega
              by_cases q1 : R = 65533
              · by_cases q2 : W = 1
                · have E := Lib.hid (show badM bs i = true by rw [HBd.out]; exact decide_eq_true (.inr (.inl ⟨q1, q2⟩)))
                  have k1 : ((R : Int) == 65533) = true := by simp; omega
                  have k2 : ((W : Int) == 1) = true := by simp; omega
                  clear q0 q1 q2
                  go_wp2_with fail
                  go_meet
                  exact ⟨rfl, by rw [E.out]⟩
                · have E := Lib.hid (show badM bs i = false by rw [HBd.out]; exact decide_eq_false (by omega))
                  have k1 : ((R : Int) == 65533) = true := by simp; omega
                  have k2 : ((W : Int) == 1) = false := by simp; omega
                  have k3 : ((R : Int) == 65279) = false := by simp; omega
                  clear q0 q1 q2
                  go_wp2_with fail
                  go_meet
                  exact ⟨rfl, by rw [E.out]⟩
              · have k1 : ((R : Int) == 65533) = false := by simp; omega
                have E := Lib.hid (show badM bs i = decide (R = 65279) by rw [HBd.out]; simp [q0, q1])
                by_cases q3 : R = 65279
                · have k3 : ((R : Int) == 65279) = true := by simp; omega
                  have E2 := Lib.hid (E.out.trans (decide_eq_true q3))
                  clear q0 q1 q3
                  go_wp2_with fail
                  go_meet
                  exact ⟨rfl, by rw [E2.out]⟩
                · have k3 : ((R : Int) == 65279) = false := by simp; omega
                  have E2 := Lib.hid (E.out.trans (decide_eq_false q3))
                  clear q0 q1 q3
                  go_wp2_with fail
                  go_meet
                  exact ⟨rfl, by rw [E2.out]⟩
          case rest =>
            obtain ⟨rfl, rfl⟩ := hcut
            have hbO := HO.out
            go_wp2_with (at_builtin; refine append3 rfl (.tmp 44) (.tmp 49) rfl w.heap.size i0 hi hz0 hz1 hz2 _ _ _ rfl w _ _ _ _ (by exact hbO) rfl (by omega) ?_; intro _ _ hb)
            go_roundw
            case rel =>
              refine ⟨i + W, acc ++ [i], by omega, by simp, by simp; omega, ?_, HE2⟩
              rw [recs_snoc]
              have er : recOf bs i = [.int .i64 i, .int .i32 R, .bool (badM bs i)] := by unfold recOf; rw [hR]
              rw [er, List.length_append]
              exact hb
            case measure => simp [intOf]; omega
    · have hlt' : ¬ (i : Int) < (bs.length : Int) := by omega
      have e := HE.out
      rw [todo_end (by omega), List.append_nil] at e
      have HE2 := Lib.hid e
      clear e
      go_wp2_with fail
      go_ret
      refine ⟨_, rfl, ?_⟩
      rw [← HE2.out]
      exact HO.out
end Go.Proofs.YtcaolpebjpilgaaFmt.Dec96
