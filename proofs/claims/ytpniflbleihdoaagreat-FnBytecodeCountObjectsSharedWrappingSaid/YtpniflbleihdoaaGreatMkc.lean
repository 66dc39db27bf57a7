/-
  Proved: zzCountConsts makes a list of constants, each of which counts.
  Conditions: at most 65536 of them, of at most 65536 elements each.
-/
import Derived.Test.YtpniflbleihdoaaGreatCons
import Derived.WalkLawsBesides
namespace Go.Proofs.YtpniflbleihdoaaGreat.Core
open Go.ChangeShapes Go.WideShapes Go.ChangeAt Go.RowKit
set_option linter.unusedVariables false

def Run (w : World) (A : Option Addr) (n : Nat) (f : Nat → Value) : Prop := 0 < n → ∃ b o, A = some ⟨b, o, none⟩ ∧ ∀ j, j < n → w.cell? ⟨b, o + j, none⟩ = some (f j)
theorem Run.keep {w w' : World} {A : Option Addr} {n : Nat} {f : Nat → Value} (h : Run w A n f) (ho : Only w w' []) : Run w' A n f := by
  intro hp
  obtain ⟨b, o, rfl, hc⟩ := h hp
  exact ⟨b, o, rfl, fun j hj => ho.cell (hc j hj) (by simp)⟩
theorem mkmap (m : Int) (w : World) : (Instr.makeMap 56 (some (.int .i64 m))).run Tryz.prog w = .ok (.map (some w.heap.size)) (w.alloc (.map #[] 0)) := by kernel_rfl
theorem law : Go.Maps.Keyed Tryz.prog 9 := Go.Maps.string_keyed Tryz.underlying9
theorem err_cst {wr y : World} {m B : Nat} (h : Lrow wr y m m) (hm : m ≤ 65536) (hB : B ≤ wr.heap.size) :
    Cst ((y.alloc (.cells #[.slice (some ⟨wr.heap.size, 0, none⟩) m m] 40)).alloc (.cells #[.iface 36 (.pointer (some ⟨y.heap.size, 0, none⟩))] 45)) B (.iface 41 (.pointer (some ⟨y.heap.size + 1, 0, none⟩))) (2 + m) := by
  have ha := h.arr hm hB 40
  have hs : B ≤ y.heap.size := by obtain ⟨_, _, _, ho⟩ := h; have := ho.size; omega
  have hf := (Hold.fresh (y.alloc (.cells #[.slice (some ⟨wr.heap.size, 0, none⟩) m m] 40)) 45 #[.iface 36 (.pointer (some ⟨y.heap.size, 0, none⟩))]).cellAt (i := 0) rfl
  rw [show (y.alloc (.cells #[.slice (some ⟨wr.heap.size, 0, none⟩) m m] 40)).heap.size = y.heap.size + 1 by simp] at hf
  exact .inr (.inr (.inr (.inr (.inr ⟨_, _, m, rfl, by omega, hf, ha.keep ((Only.refl _ []).fresh _) (by simp), rfl⟩))))
theorem map_later {H : Type} {y y1 : World} {R : Value → Option (DataW H × List MemPlace)} {b n : Nat} {D : DataW H} (h : y.ownsMap Tryz.prog 9 R b n D) (hb : Below y.heap.size y y1) : y1.ownsMap Tryz.prog 9 R b n D := by
  obtain ⟨es, clock, h1, r⟩ := h
  exact ⟨es, clock, (hb.block b (Array.getElem?_eq_some_iff.1 h1).1).trans h1, r⟩
theorem oneC (t : TypeId) (x : Value) : ∀ u ∈ [Value.iface t x], u.oneCell' = true := by
  intro u hu
  simp at hu
  subst hu
  rfl
theorem key_small (c s : ByteArray) (hs : s.size ≤ 24) (hc : c.size = 1) : (c ++ s).size ≤ maxLen := by
  rw [ByteArray.size_append, hc]
  unfold maxLen
  omega
/-- What it leaves. -/
def Listed (w : World) (n : Nat) (e : Ending) (w' : World) : Prop := e = .returned (.slice (some ⟨w.heap.size, 0, none⟩) n n) ∧ Out w w' n n

set_option maxHeartbeats 8000000 in
set_option maxRecDepth 20000 in
theorem mk_any (A B : Option Addr) (na nb ca cb n : Nat) (ks ms : Nat → Nat) (w : World) (hk : Run w A na fun j => .int .u8 (ks j)) (hm : Run w B nb fun j => .int .u16 (ms j)) (hka : n ≤ na) (hkb : n ≤ nb) (hn : n ≤ 65536) (hmx : ∀ j, ms j ≤ 65536) (hkx : ∀ j, ks j < 256) :
    Calls Tryz.prog 7 #[.slice A na ca, .slice B nb cb, .int .i64 n] w (Listed w n) := by
  obtain ⟨i0, hi0, hz0, hz1, hz2⟩ := info_parts objInfo
  have HI := Lib.hid hi0
  have HZ0 := Lib.hid hz0
  have HZ1 := Lib.hid hz1
  have HZ2 := Lib.hid hz2
  have HK := Lib.hid hk
  have HM := Lib.hid hm
  have HMX := Lib.hid hmx
  have HKX := Lib.hid hkx
  clear hi0 hz0 hz1 hz2 hk hm hmx hkx
  go_enter Tryz.func7, Tryz.ntmps7
  go_big_wp2_with (first
    | (at_make; refine wpList_make_own _ rfl _ _ 28 rfl w.heap.size 43 i0 .nilIface 1 Tryz.underlying28 HI.out HZ0.out HZ1.out _ _ _ n rfl rfl rfl (by rw [HZ2.out]; omega) (by unfold maxLen; omega) (Nat.le_refl _) ?_; intro X hownX hgX
       have OUT := Lib.hid (Out.start hownX hgX)
       clear hownX hgX))
  go_loopw [7, 8] (fun vo vi wr => ∃ i : Nat, i ≤ n ∧ vi = .int .i64 i ∧ vo = .slice (some ⟨w.heap.size, 0, none⟩) i n ∧ Hid (Out w wr n i)) (fun _ vi _ => n - (intOf vi).toNat)
  case atStart => exact ⟨0, by omega, rfl, rfl, OUT⟩
  case round =>
    obtain ⟨i, hi, rfl, rfl, HO⟩ := hrel
    obtain ⟨wo, hwo⟩ : ∃ wo, wo = wr := ⟨_, rfl⟩
    rw [← hwo] at HO ⊢
    clear hwo
    clear wr
    by_cases hlt : i < n
    · have hlt' : (i : Int) < (n : Int) := by omega
      obtain ⟨xs, c, hown, hxs, how, hwlt⟩ := HO.out
      have hxl : xs.length = i := by simpa using hown.1
      have OW := Lib.hid hown
      have HXS := Lib.hid hxs
      have HXL := Lib.hid hxl
      have OWR := Lib.hid how
      obtain ⟨b1, o1, rfl, hc1⟩ := (HK.out.keep how) (by omega)
      obtain ⟨b2, o2, rfl, hc2⟩ := (HM.out.keep how) (by omega)
      have k1 : wo.cell? ⟨b1, o1 + i, none⟩ = some (.int .u8 (ks i)) := hc1 i (by omega)
      have k2 : wo.cell? ⟨b2, o2 + i, none⟩ = some (.int .u16 (ms i)) := hc2 i (by omega)
      have hmi := HMX.out i
      have hki := HKX.out i
      clear hown hxs hxl how hc1 hc2
      generalize ms i = m at k2 hmi
      generalize ks i = kd at k1 hki
      have ia : (i : Int) < (na : Int) := by omega
      have ib : (i : Int) < (nb : Int) := by omega
      have hrem : (kd : Int).tmod 6 = ((kd % 6 : Nat) : Int) := by rw [Int.tmod_eq_emod_of_nonneg (by omega)]; omega
      have h6 : kd % 6 = 0 ∨ kd % 6 = 1 ∨ kd % 6 = 2 ∨ kd % 6 = 3 ∨ kd % 6 = 4 ∨ kd % 6 = 5 := by omega
      rcases h6 with q | q | q | q | q | q
      · rw [q] at hrem
        have OW0 := OW
        go_big_wp2_with (at_builtin; refine wpList_append_fits _ rfl _ _ 28 rfl w.heap.size 43 i0 1 Tryz.underlying28 HI.out HZ1.out w.heap.size i n xs rfl ((OW0.out.alloc _).alloc _) ⟨wo.heap.size + 1, 0, none⟩ 1 1 [.iface 46 (.pointer (some ⟨wo.heap.size, 0, none⟩))] rfl rfl (cell_new_at _ _ _ _ (by simp)) (oneC _ _) (by omega) ?_; intro w2 hown2 hg2)
        have NEW := Lib.hid (Out.step (k := 1) HXS.out HXL.out hwlt OWR.out ((Only.refl wo []).fresh _) (.inl ⟨⟨_, .inl rfl⟩, rfl⟩) hown2 hg2)
        clear hown2 hg2
        go_roundw
        case rel => exact ⟨i + 1, by omega, by go_num, by rfl, NEW⟩
        case measure => simp [intOf]; omega
      · rw [q] at hrem
        go_big_wp2_with (first
          | (at_make; refine wpList_make_own _ rfl _ _ 28 rfl wo.heap.size 43 i0 .nilIface 1 Tryz.underlying28 HI.out HZ0.out HZ1.out _ _ _ m rfl rfl rfl (by rw [HZ2.out]; omega) (by unfold maxLen; omega) (Nat.le_refl _) ?_; intro Y hownY hgY
             have LR := Lib.hid (Lrow.start hownY hgY)
             clear hownY hgY))
        go_loopw [10, 11] (fun va vj wr => ∃ j : Nat, j ≤ m ∧ vj = .int .i64 j ∧ va = .slice (some ⟨wo.heap.size, 0, none⟩) j m ∧ Hid (Lrow wo wr m j)) (fun _ vj _ => m - (intOf vj).toNat)
        case atStart => exact ⟨0, by omega, rfl, rfl, LR⟩
        case round =>
          obtain ⟨j, hj, rfl, rfl, HL⟩ := hrel
          by_cases hlj : j < m
          · have hlj' : (j : Int) < (m : Int) := by omega
            obtain ⟨ys, hyo, hyl, hyn⟩ := HL.out
            have YO := Lib.hid hyo
            have YL := Lib.hid hyl
            have YN := Lib.hid hyn
            clear hyo hyl hyn
            go_big_wp2_with (at_builtin; refine wpList_append_fits _ rfl _ _ 28 rfl wo.heap.size 43 i0 1 Tryz.underlying28 HI.out HZ1.out wo.heap.size j m ys rfl ((YO.out.alloc _).alloc _) ⟨wr.heap.size + 1, 0, none⟩ 1 1 [.iface 46 (.pointer (some ⟨wr.heap.size, 0, none⟩))] rfl rfl (cell_new_at _ _ _ _ (by simp)) (oneC _ _) (by omega) ?_; intro y2 hy2 hg2)
            have LN := Lib.hid (Lrow.step YL.out ⟨_, .inl rfl⟩ YN.out ((Only.refl wr []).fresh _) hy2 hg2)
            clear hy2 hg2
            go_roundw
            case rel => exact ⟨j + 1, by omega, by go_num, by rfl, LN⟩
            case measure => simp [intOf]; omega
          · have hlj' : ¬ (j : Int) < (m : Int) := by omega
            have hjm : j = m := by omega
            subst hjm
            obtain ⟨ys, hyo, hyl, hyn⟩ := HL.out
            have OW0 := Lib.hid (hyn.owns OW.out (by simp))
            have YN := Lib.hid hyn
            clear hyo hyl hyn
            go_big_wp2_with (at_builtin; refine wpList_append_fits _ rfl _ _ 28 rfl w.heap.size 43 i0 1 Tryz.underlying28 HI.out HZ1.out w.heap.size i n xs rfl ((OW0.out.alloc _).alloc _) ⟨wr.heap.size + 1, 0, none⟩ 1 1 [.iface 36 (.pointer (some ⟨wr.heap.size, 0, none⟩))] rfl rfl (cell_new_at _ _ _ _ (by simp)) (oneC _ _) (by omega) ?_; intro w2 hown2 hg2)
            have NEW := Lib.hid (Out.step (k := (1 + j)) HXS.out HXL.out hwlt OWR.out (YN.out.fresh _) (.inr (.inl ⟨_, _, rfl, HL.out.arr (by omega) (by omega) _, rfl⟩)) hown2 hg2)
            clear hown2 hg2
            go_roundw
            case rel => exact ⟨i + 1, by omega, by go_num, by rfl, NEW⟩
            case measure => simp [intOf]; omega
      · rw [q] at hrem
        go_big_wp2_with (first
          | (at_make; refine wpList_make_own _ rfl _ _ 28 rfl wo.heap.size 43 i0 .nilIface 1 Tryz.underlying28 HI.out HZ0.out HZ1.out _ _ _ m rfl rfl rfl (by rw [HZ2.out]; omega) (by unfold maxLen; omega) (Nat.le_refl _) ?_; intro Y hownY hgY
             have LR := Lib.hid (Lrow.start hownY hgY)
             clear hownY hgY))
        go_loopw [12, 13] (fun va vj wr => ∃ j : Nat, j ≤ m ∧ vj = .int .i64 j ∧ va = .slice (some ⟨wo.heap.size, 0, none⟩) j m ∧ Hid (Lrow wo wr m j)) (fun _ vj _ => m - (intOf vj).toNat)
        case atStart => exact ⟨0, by omega, rfl, rfl, LR⟩
        case round =>
          obtain ⟨j, hj, rfl, rfl, HL⟩ := hrel
          by_cases hlj : j < m
          · have hlj' : (j : Int) < (m : Int) := by omega
            obtain ⟨ys, hyo, hyl, hyn⟩ := HL.out
            have YO := Lib.hid hyo
            have YL := Lib.hid hyl
            have YN := Lib.hid hyn
            clear hyo hyl hyn
            have ITO := Lib.hid (itoa_any j wr (by omega))
            go_big_wp2_with fail
            refine ITO.out.mono ?_
            rintro e y1 ⟨sx, rfl, hsx, hb1⟩
            have YO1 := Lib.hid ((Only.ofBelow hb1 []).owns YO.out (by simp))
            have Y1 := Lib.hid (Only.ofBelow hb1 [])
            clear hb1
            go_big_wp2_with (at_builtin; refine wpList_append_fits _ rfl _ _ 28 rfl wo.heap.size 43 i0 1 Tryz.underlying28 HI.out HZ1.out wo.heap.size j m ys rfl ((YO1.out.alloc _).alloc _) ⟨y1.heap.size + 1, 0, none⟩ 1 1 [.iface 49 (.pointer (some ⟨y1.heap.size, 0, none⟩))] rfl rfl (cell_new_at _ _ _ _ (by simp)) (oneC _ _) (by omega) ?_; intro y2 hy2 hg2)
            have LN := Lib.hid (Lrow.step YL.out ⟨_, .inr (.inl rfl)⟩ YN.out (Y1.out.fresh _) hy2 hg2)
            clear hy2 hg2
            go_roundw
            case rel => exact ⟨j + 1, by omega, by go_num, by rfl, LN⟩
            case measure => simp [intOf]; omega
          · have hlj' : ¬ (j : Int) < (m : Int) := by omega
            have hjm : j = m := by omega
            subst hjm
            obtain ⟨ys, hyo, hyl, hyn⟩ := HL.out
            have OW0 := Lib.hid (hyn.owns OW.out (by simp))
            have YN := Lib.hid hyn
            clear hyo hyl hyn
            go_big_wp2_with (at_builtin; refine wpList_append_fits _ rfl _ _ 28 rfl w.heap.size 43 i0 1 Tryz.underlying28 HI.out HZ1.out w.heap.size i n xs rfl ((OW0.out.alloc _).alloc _) ⟨wr.heap.size + 1, 0, none⟩ 1 1 [.iface 54 (.pointer (some ⟨wr.heap.size, 0, none⟩))] rfl rfl (cell_new_at _ _ _ _ (by simp)) (oneC _ _) (by omega) ?_; intro w2 hown2 hg2)
            have NEW := Lib.hid (Out.step (k := (1 + j)) HXS.out HXL.out hwlt OWR.out (YN.out.fresh _) (.inr (.inr (.inl ⟨_, _, rfl, HL.out.arr (by omega) (by omega) _, rfl⟩))) hown2 hg2)
            clear hown2 hg2
            go_roundw
            case rel => exact ⟨i + 1, by omega, by go_num, by rfl, NEW⟩
            case measure => simp [intOf]; omega
      · rw [q] at hrem
        have mk := mkmap (m : Int)
        go_big_wp2_with fail
        clear mk
        go_loopw [15] (fun vj wr => ∃ j : Nat, j ≤ m ∧ vj = .int .i64 j ∧ Hid (Lmap wo wr j)) (fun vj _ => m - (intOf vj).toNat)
        case atStart => exact ⟨0, by omega, rfl, Lib.hid ⟨_, World.ownsMap_made wo _ _ _, (Only.refl wo []).fresh _⟩⟩
        case round =>
          obtain ⟨j, hj, rfl, HL⟩ := hrel
          by_cases hlj : j < m
          · have hlj' : (j : Int) < (m : Int) := by omega
            obtain ⟨D, hym, hyn⟩ := HL.out
            have YM := Lib.hid hym
            have YN := Lib.hid hyn
            clear hym hyn
            have ITO := Lib.hid (itoa_any j wr (by omega))
            go_big_wp2_with fail
            refine ITO.out.mono ?_
            rintro e y1 ⟨sx, rfl, hsx, hb1⟩
            have YM1 := Lib.hid (map_later YM.out hb1)
            have Y1 := Lib.hid (YN.out.next (Only.ofBelow hb1 []) (by simp))
            clear hb1
            go_big_wp2_with (at_mapUpdate; refine wpList_mapUpdate_own _ rfl _ _ _ 56 rfl 9 43 law Tryz.underlying56 leafR wo.heap.size j D rfl (YM1.out.alloc _) (by unfold maxLen; omega) _ _ _ rfl rfl (WideMaps.keyOf_string_mk Tryz.underlying9 (key_small _ _ hsx rfl)) _ [] (leafR_int _) ?_; intro y2 hm2 hg2)
            have LN := Lib.hid (show Lmap wo y2 (j + 1) from ⟨_, hm2, (Y1.out.fresh _).next (Only.ofGrown (gs := [wo.heap.size]) hg2 (by intro k hk; cases hk; simp)) (by simp)⟩)
            clear hm2 hg2
            go_roundw
            case rel => exact ⟨j + 1, by omega, by go_num, LN⟩
            case measure => simp [intOf]; omega
          · have hlj' : ¬ (j : Int) < (m : Int) := by omega
            have hjm : j = m := by omega
            subst hjm
            obtain ⟨kk, hMM⟩ := HL.out.map (B := w.heap.size + 1) (by omega) (by omega) 59
            obtain ⟨D, hym, hyn⟩ := HL.out
            have OW0 := Lib.hid (hyn.owns OW.out (by simp))
            have YN := Lib.hid hyn
            have MM := Lib.hid hMM
            clear hym hyn hMM
            go_big_wp2_with (at_builtin; refine wpList_append_fits _ rfl _ _ 28 rfl w.heap.size 43 i0 1 Tryz.underlying28 HI.out HZ1.out w.heap.size i n xs rfl ((OW0.out.alloc _).alloc _) ⟨wr.heap.size + 1, 0, none⟩ 1 1 [.iface 57 (.pointer (some ⟨wr.heap.size, 0, none⟩))] rfl rfl (cell_new_at _ _ _ _ (by simp)) (oneC _ _) (by omega) ?_; intro w2 hown2 hg2)
            have NEW := Lib.hid (Out.step (k := (1 + kk)) HXS.out HXL.out hwlt OWR.out (YN.out.fresh _) (.inr (.inr (.inr (.inl ⟨_, _, rfl, MM.out, rfl⟩)))) hown2 hg2)
            clear hown2 hg2
            go_roundw
            case rel => exact ⟨i + 1, by omega, by go_num, by rfl, NEW⟩
            case measure => simp [intOf]; omega
      · rw [q] at hrem
        go_big_wp2_with (first
          | (at_make; refine wpList_make_own _ rfl _ _ 28 rfl wo.heap.size 43 i0 .nilIface 1 Tryz.underlying28 HI.out HZ0.out HZ1.out _ _ _ m rfl rfl rfl (by rw [HZ2.out]; omega) (by unfold maxLen; omega) (Nat.le_refl _) ?_; intro Y hownY hgY
             have LR := Lib.hid (Lrow.start hownY hgY)
             clear hownY hgY))
        go_loopw [16, 17] (fun va vj wr => ∃ j : Nat, j ≤ m ∧ vj = .int .i64 j ∧ va = .slice (some ⟨wo.heap.size, 0, none⟩) j m ∧ Hid (Lrow wo wr m j)) (fun _ vj _ => m - (intOf vj).toNat)
        case atStart => exact ⟨0, by omega, rfl, rfl, LR⟩
        case round =>
          obtain ⟨j, hj, rfl, rfl, HL⟩ := hrel
          by_cases hlj : j < m
          · have hlj' : (j : Int) < (m : Int) := by omega
            obtain ⟨ys, hyo, hyl, hyn⟩ := HL.out
            have YO := Lib.hid hyo
            have YL := Lib.hid hyl
            have YN := Lib.hid hyn
            clear hyo hyl hyn
            go_big_wp2_with (at_builtin; refine wpList_append_fits _ rfl _ _ 28 rfl wo.heap.size 43 i0 1 Tryz.underlying28 HI.out HZ1.out wo.heap.size j m ys rfl ((YO.out.alloc _).alloc _) ⟨wr.heap.size + 1, 0, none⟩ 1 1 [.iface 60 (.pointer (some ⟨wr.heap.size, 0, none⟩))] rfl rfl (cell_new_at _ _ _ _ (by simp)) (oneC _ _) (by omega) ?_; intro y2 hy2 hg2)
            have LN := Lib.hid (Lrow.step YL.out ⟨_, .inr (.inr (.inl rfl))⟩ YN.out ((Only.refl wr []).fresh _) hy2 hg2)
            clear hy2 hg2
            go_roundw
            case rel => exact ⟨j + 1, by omega, by go_num, by rfl, LN⟩
            case measure => simp [intOf]; omega
          · have hlj' : ¬ (j : Int) < (m : Int) := by omega
            have hjm : j = m := by omega
            subst hjm
            obtain ⟨ys, hyo, hyl, hyn⟩ := HL.out
            have OW0 := Lib.hid (hyn.owns OW.out (by simp))
            have YN := Lib.hid hyn
            clear hyo hyl hyn
            go_big_wp2_with (at_builtin; refine wpList_append_fits _ rfl _ _ 28 rfl w.heap.size 43 i0 1 Tryz.underlying28 HI.out HZ1.out w.heap.size i n xs rfl (((OW0.out.alloc _).alloc _).alloc _) ⟨wr.heap.size + 1 + 1, 0, none⟩ 1 1 [.iface 41 (.pointer (some ⟨wr.heap.size + 1, 0, none⟩))] rfl rfl (cell_new_at _ _ _ _ (by simp)) (oneC _ _) (by omega) ?_; intro w2 hown2 hg2)
            have NEW := Lib.hid (Out.step (k := (2 + j)) HXS.out HXL.out hwlt OWR.out ((YN.out.fresh _).fresh _) (err_cst HL.out (by omega) (by omega)) hown2 hg2)
            clear hown2 hg2
            go_roundw
            case rel => exact ⟨i + 1, by omega, by go_num, by rfl, NEW⟩
            case measure => simp [intOf]; omega
      · rw [q] at hrem
        have mk := mkmap (m : Int)
        go_big_wp2_with fail
        clear mk
        go_loopw [19] (fun vj wr => ∃ j : Nat, j ≤ m ∧ vj = .int .i64 j ∧ Hid (Lmap wo wr j)) (fun vj _ => m - (intOf vj).toNat)
        case atStart => exact ⟨0, by omega, rfl, Lib.hid ⟨_, World.ownsMap_made wo _ _ _, (Only.refl wo []).fresh _⟩⟩
        case round =>
          obtain ⟨j, hj, rfl, HL⟩ := hrel
          by_cases hlj : j < m
          · have hlj' : (j : Int) < (m : Int) := by omega
            obtain ⟨D, hym, hyn⟩ := HL.out
            have YM := Lib.hid hym
            have YN := Lib.hid hyn
            clear hym hyn
            have ITO := Lib.hid (itoa_any j wr (by omega))
            go_big_wp2_with fail
            refine ITO.out.mono ?_
            rintro e y1 ⟨sx, rfl, hsx, hb1⟩
            have YM1 := Lib.hid (map_later YM.out hb1)
            have Y1 := Lib.hid (YN.out.next (Only.ofBelow hb1 []) (by simp))
            clear hb1
            go_big_wp2_with (at_mapUpdate; refine wpList_mapUpdate_own _ rfl _ _ _ 56 rfl 9 43 law Tryz.underlying56 leafR wo.heap.size j D rfl (YM1.out.alloc _) (by unfold maxLen; omega) _ _ _ rfl rfl (WideMaps.keyOf_string_mk Tryz.underlying9 (key_small _ _ hsx rfl)) _ [] (leafR_flt _) ?_; intro y2 hm2 hg2)
            have LN := Lib.hid (show Lmap wo y2 (j + 1) from ⟨_, hm2, (Y1.out.fresh _).next (Only.ofGrown (gs := [wo.heap.size]) hg2 (by intro k hk; cases hk; simp)) (by simp)⟩)
            clear hm2 hg2
            go_roundw
            case rel => exact ⟨j + 1, by omega, by go_num, LN⟩
            case measure => simp [intOf]; omega
          · have hlj' : ¬ (j : Int) < (m : Int) := by omega
            have hjm : j = m := by omega
            subst hjm
            obtain ⟨kk, hMM⟩ := HL.out.map (B := w.heap.size + 1) (by omega) (by omega) 68
            obtain ⟨D, hym, hyn⟩ := HL.out
            have OW0 := Lib.hid (hyn.owns OW.out (by simp))
            have YN := Lib.hid hyn
            have MM := Lib.hid hMM
            clear hym hyn hMM
            go_big_wp2_with (at_builtin; refine wpList_append_fits _ rfl _ _ 28 rfl w.heap.size 43 i0 1 Tryz.underlying28 HI.out HZ1.out w.heap.size i n xs rfl ((OW0.out.alloc _).alloc _) ⟨wr.heap.size + 1, 0, none⟩ 1 1 [.iface 67 (.pointer (some ⟨wr.heap.size, 0, none⟩))] rfl rfl (cell_new_at _ _ _ _ (by simp)) (oneC _ _) (by omega) ?_; intro w2 hown2 hg2)
            have NEW := Lib.hid (Out.step (k := (1 + kk)) HXS.out HXL.out hwlt OWR.out (YN.out.fresh _) (.inr (.inr (.inr (.inr (.inl ⟨_, _, rfl, MM.out, rfl⟩))))) hown2 hg2)
            clear hown2 hg2
            go_roundw
            case rel => exact ⟨i + 1, by omega, by go_num, by rfl, NEW⟩
            case measure => simp [intOf]; omega
    · have hlt' : ¬ (i : Int) < (n : Int) := by omega
      have : i = n := by omega
      subst this
      go_big_wp2_with fail
      go_ret
      exact ⟨rfl, HO.out⟩
end Go.Proofs.YtpniflbleihdoaaGreat.Core
