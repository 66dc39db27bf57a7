/-
  Proved: n002_114's helpers by contract: zzWithLead, zzDropCR, zzSameText, zzRawEnd, zzStringEnd.
  Conditions: the texts lie in memory and are of moderate length.
-/
import Derived.Test.YtpdfompeoceklaaFmtRaw
import Derived.Test.YtpdfompeoceklaaFmtEsc
import Derived.OwnWalk
import Derived.Laws.AppendOwn
import Derived.Laws.AppendOwnNone
namespace Go.Proofs.YtpdfompeoceklaaFmt.Lead
open Go.ChangeShapes Go.WideShapes Go.ChangeAt Go.RowKit Core
set_option linter.unusedVariables false

theorem info_parts1 {P : Program} {t : TypeId} {z : Value} {s b : Nat} (h : (P.info? t).map (fun i => (i.zero, i.size, i.bytes)) = some (some z, s, b)) : ∃ i, P.info? t = some i ∧ i.zero = some z ∧ i.size = s ∧ i.bytes = b := by
  cases hi : P.info? t with
  | none => rw [hi] at h; cases h
  | some i =>
    rw [hi] at h
    simp at h
    exact ⟨i, rfl, h.1, h.2.1, h.2.2⟩
def cellsB (l : List UInt8) : List Value := l.map fun b => .int .u8 (b.toNat : Int)
/-- v is a row of one's own, younger than w0, that reads as l. -/
def OwnB (v : Value) (l : List UInt8) (w0 w : World) : Prop := w.ownsRow w0.heap.size 5 1 v l.length (cellsB l) ∧ Below w0.heap.size w0 w
theorem OwnB.read {v : Value} {l : List UInt8} {w0 w : World} (h : OwnB v l w0 w) : ∃ a cap, v = .slice a l.length cap ∧ l.length ≤ cap ∧ cap ≤ maxLen ∧ (0 < l.length → ∃ g, a = some ⟨g, 0, none⟩ ∧ w0.heap.size ≤ g ∧ ∀ j, j < l.length → w.cell? ⟨g, 0 + j, none⟩ = some (.int .u8 (bt l j))) := by
  have hO := h.1
  rcases h.1.2 with ⟨rfl, hz⟩ | ⟨g, cap, cur, rfl, hb, hh, r1, r2, _⟩
  · have : l = [] := List.length_eq_zero_iff.1 hz
    subst this
    exact ⟨none, 0, rfl, Nat.le_refl _, Nat.zero_le _, fun h => absurd h (by simp)⟩
  · refine ⟨some ⟨g, 0, none⟩, cap, rfl, r1, r2, fun _ => ⟨g, rfl, hb, fun j hj => ?_⟩⟩
    have := hO.cells (g := g) rfl j (.int .u8 (bt l j)) (by
      unfold cellsB bt
      rw [List.getElem?_map, List.getElem?_eq_getElem hj, List.getD_eq_getElem?_getD, List.getElem?_eq_getElem hj]
      rfl)
    rw [Addr.add_lit] at this
    exact this
theorem OwnB.src {v : Value} {l : List UInt8} {w0 w : World} (h : OwnB v l w0 w) : ∃ a cap, v = .slice a l.length cap ∧ Src w a cap l ∧ (∀ x, 0 < l.length → a = some x → w0.heap.size ≤ x.block) := by
  obtain ⟨a, cap, rfl, h1, h2, h3⟩ := h.read
  refine ⟨a, cap, rfl, ⟨h1, h2, fun hp => ?_⟩, fun x hp hx => ?_⟩
  · obtain ⟨g, rfl, _, hc⟩ := h3 hp
    exact ⟨g, 0, rfl, hc⟩
  · obtain ⟨g, rfl, hg, _⟩ := h3 hp
    injection hx with hx
    subst hx
    exact hg
theorem cellsB_snoc (l : List UInt8) (b : UInt8) : cellsB (l ++ [b]) = cellsB l ++ [.int .u8 (b.toNat : Int)] := by unfold cellsB; simp
theorem cellsB_app (l m : List UInt8) : cellsB (l ++ m) = cellsB l ++ cellsB m := by unfold cellsB; simp

theorem OwnB.app {v v' : Value} {l news : List UInt8} {w0 w w' : World} {m : Nat} (h : OwnB v l w0 w) (hown : w'.ownsRow w0.heap.size 5 1 v' (l.length + m) (cellsB l ++ cellsB news)) (hm : m = news.length) (hg : w.grownBy w' v.ownBlock) : OwnB v' (l ++ news) w0 w' := by
  refine ⟨by rw [List.length_append, ← hm, cellsB_app]; exact hown, h.2.grown hg h.2.size ?_⟩
  intro k hk
  rcases h.1.2 with ⟨rfl, _⟩ | ⟨g, cap, cur, rfl, hb, _⟩
  · simp [Value.ownBlock] at hk
  · simp [Value.ownBlock] at hk
    omega
theorem OwnB.app1 {v v' : Value} {l : List UInt8} {x : UInt8} {w0 w w' : World} {o : Obj} (h : OwnB v l w0 w) (hown : w'.ownsRow w0.heap.size 5 1 v' (l.length + 1) (cellsB l ++ [.int .u8 (x.toNat : Int)])) (hg : (w.alloc o).grownBy w' v.ownBlock) : OwnB v' (l ++ [x]) w0 w' := by
  refine ⟨by rw [List.length_append, cellsB_app]; exact hown, (h.2.alloc h.2.size o).grown hg (by have := h.2.size; simp; omega) ?_⟩
  intro k hk
  rcases h.1.2 with ⟨rfl, _⟩ | ⟨g, cap, cur, rfl, hb, _⟩
  · simp [Value.ownBlock] at hk
  · simp [Value.ownBlock] at hk
    omega
set_option maxHeartbeats 2000000 in
theorem lead_some (x : UInt8) (c : Int) (hx : c = (x.toNat : Int)) (ad : Addr) (cap : Nat) (bs : List UInt8) (w : World) (hc : ∀ j, j < bs.length → w.cell? (ad.add j) = some (.int .u8 (bt bs j))) (hn : bs.length ≤ 1048576) :
    Calls Tryf.prog 13 #[.int .u8 c, .slice (some ad) bs.length cap] w fun e w' => ∃ v, e = .returned v ∧ OwnB v (x :: bs) w w' := by
  subst hx
  obtain ⟨i0, hi, hz0, hz1, hz2⟩ := info_parts1 byteInfo
  have HI := Lib.hid hi
  have HZ0 := Lib.hid hz0
  have HZ1 := Lib.hid hz1
  have HZ2 := Lib.hid hz2
  have HC := Lib.hid hc
  clear hi hz0 hz1 hz2 hc
  go_enter Tryf.func13, Tryf.ntmps13
  go_wp2_with (first
    | (at_make; refine wpList_make_own _ rfl _ _ 22 rfl w.heap.size 5 i0 (.int .u8 0) 1 Tryf.underlying22 HI.out HZ0.out HZ1.out _ _ _ (bs.length + 1) rfl rfl (by first | rfl | omega) (by rw [HZ2.out]; omega) (by unfold maxLen; omega) (Nat.le_refl _) ?_; intro w1 hown hg
       have HO1 : Hid (OwnB (.slice (some ⟨w.heap.size, 0, none⟩) 0 (bs.length + 1)) [] w w1) := Lib.hid ⟨hown, (Below.refl _ _).grown hg (Nat.le_refl _) (by intro k hk; cases hk)⟩
       clear hown hg)
    | (at_builtin; refine wpList_append_own _ rfl _ _ 22 rfl w.heap.size 5 i0 (.int .u8 0) 1 1 Tryf.underlying22 HI.out HZ0.out HZ1.out HZ2.out rfl (by decide) _ _ _ rfl (HO1.out.1.alloc _) ⟨w1.heap.size, 0, none⟩ 1 1 [.int .u8 (x.toNat : Int)] rfl rfl ?c1 ?c2 ?c3 ?c4 ?c5 ?_))
  case c1 => exact cell_one_new _ _ _
  case c2 => intro u hu; simp at hu; subst hu; rfl
  case c3 => simp; unfold maxLen; omega
  case c4 => simp
  case c5 => have := HO1.out.2.size; simp; omega
  intro v2 w2 hown2 hg2 _
  have HO2 := Lib.hid (HO1.out.app1 (x := x) hown2 hg2)
  clear hown2 hg2 HO1
  go_wp2_with (first
    | (at_builtin; refine wpList_append_own _ rfl _ _ 22 rfl w.heap.size 5 i0 (.int .u8 0) 1 1 Tryf.underlying22 HI.out HZ0.out HZ1.out HZ2.out rfl (by decide) _ _ _ rfl HO2.out.1 ad bs.length cap (cellsB bs) rfl (by unfold cellsB; simp) ?e1 ?e2 ?e3 ?e4 ?e5 ?_))
  case e1 =>
    intro j u hu
    unfold cellsB at hu
    rw [List.getElem?_map] at hu
    by_cases hj : j < bs.length
    · rw [List.getElem?_eq_getElem hj] at hu
      simp at hu
      subst hu
      have := HC.out j hj
      rw [HO2.out.2.cell (World.block_lt_of_cell? w _ this), this]
      unfold bt
      rw [List.getD_eq_getElem?_getD, List.getElem?_eq_getElem hj, Option.getD_some]
    · rw [List.getElem?_eq_none (by omega)] at hu
      cases hu
  case e2 =>
    intro u hu
    unfold cellsB at hu
    simp at hu
    obtain ⟨y, _, rfl⟩ := hu
    rfl
  case e3 => simp; unfold maxLen; omega
  case e4 => simp; omega
  case e5 => exact HO2.out.2.size
  intro v3 w3 hown3 hg3 _
  have HO3 := Lib.hid (HO2.out.app (news := bs) hown3 rfl hg3)
  clear hown3 hg3 HO2
  go_wp2_with fail
  go_ret
  exact ⟨v3, rfl, HO3.out⟩
set_option maxHeartbeats 2000000 in
theorem lead_none (x : UInt8) (c : Int) (hx : c = (x.toNat : Int)) (w : World) :
    Calls Tryf.prog 13 #[.int .u8 c, .slice none 0 0] w fun e w' => ∃ v, e = .returned v ∧ OwnB v ([x]) w w' := by
  subst hx
  obtain ⟨i0, hi, hz0, hz1, hz2⟩ := info_parts1 byteInfo
  have HI := Lib.hid hi
  have HZ0 := Lib.hid hz0
  have HZ1 := Lib.hid hz1
  have HZ2 := Lib.hid hz2
  clear hi hz0 hz1 hz2
  go_enter Tryf.func13, Tryf.ntmps13
  go_wp2_with (first
    | (at_make; refine wpList_make_own _ rfl _ _ 22 rfl w.heap.size 5 i0 (.int .u8 0) 1 Tryf.underlying22 HI.out HZ0.out HZ1.out _ _ _ 1 rfl rfl (by first | rfl | omega) (by rw [HZ2.out]; omega) (by unfold maxLen; omega) (Nat.le_refl _) ?_; intro w1 hown hg
       have HO1 : Hid (OwnB (.slice (some ⟨w.heap.size, 0, none⟩) 0 1) [] w w1) := Lib.hid ⟨hown, (Below.refl _ _).grown hg (Nat.le_refl _) (by intro k hk; cases hk)⟩
       clear hown hg)
    | (at_builtin; refine wpList_append_own _ rfl _ _ 22 rfl w.heap.size 5 i0 (.int .u8 0) 1 1 Tryf.underlying22 HI.out HZ0.out HZ1.out HZ2.out rfl (by decide) _ _ _ rfl (HO1.out.1.alloc _) ⟨w1.heap.size, 0, none⟩ 1 1 [.int .u8 (x.toNat : Int)] rfl rfl ?c1 ?c2 ?c3 ?c4 ?c5 ?_))
  case c1 => exact cell_one_new _ _ _
  case c2 => intro u hu; simp at hu; subst hu; rfl
  case c3 => simp; unfold maxLen; omega
  case c4 => simp
  case c5 => have := HO1.out.2.size; simp; omega
  intro v2 w2 hown2 hg2 _
  have HO2 := Lib.hid (HO1.out.app1 (x := x) hown2 hg2)
  clear hown2 hg2 HO1
  go_wp2_with (first
    | (at_builtin; refine wpList_append_own_none rfl _ _ 22 rfl w.heap.size 5 i0 1 Tryf.underlying22 HI.out _ _ _ rfl HO2.out.1 rfl ?_))
  go_ret
  exact ⟨v2, rfl, HO2.out⟩
theorem lead_any (x : UInt8) (c : Int) (hx : c = (x.toNat : Int)) (a : Option Addr) (cap : Nat) (bs : List UInt8) (w : World) (hs : Src w a cap bs) (hN : a = none → bs.length = 0 ∧ cap = 0) (hn : bs.length ≤ 1048576) :
    Calls Tryf.prog 13 #[.int .u8 c, .slice a bs.length cap] w fun e w' => ∃ v, e = .returned v ∧ OwnB v (x :: bs) w w' := by
  cases a with
  | none =>
    obtain ⟨h1, rfl⟩ := hN rfl
    have : bs = [] := List.length_eq_zero_iff.1 h1
    subst this
    exact lead_none x c hx w
  | some y =>
    refine lead_some x c hx y cap bs w (fun j hj => ?_) hn
    obtain ⟨b', o', e, hc⟩ := hs.2.2 (by omega)
    injection e with e
    subst e
    rw [Addr.add_lit]
    exact hc j hj
set_option maxHeartbeats 2000000 in
theorem drop_any (b o cap : Nat) (bs : List UInt8) (w : World) (hc : ∀ j, j < bs.length → w.cell? ⟨b, o + j, none⟩ = some (.int .u8 (bt bs j))) (hn : bs.length ≤ 1048577) :
    Calls Tryf.prog 24 #[.slice (some ⟨b, o, none⟩) bs.length cap] w fun e w' => ∃ v, e = .returned v ∧ OwnB v (noCR bs) w w' := by
  obtain ⟨i0, hi, hz0, hz1, hz2⟩ := info_parts1 byteInfo
  have HI := Lib.hid hi
  have HZ0 := Lib.hid hz0
  have HZ1 := Lib.hid hz1
  have HZ2 := Lib.hid hz2
  have HC := Lib.hid hc
  clear hi hz0 hz1 hz2 hc
  go_enter Tryf.func24, Tryf.ntmps24
  go_wp2_with (first
    | (at_make; refine wpList_make_own _ rfl _ _ 22 rfl w.heap.size 5 i0 (.int .u8 0) 1 Tryf.underlying22 HI.out HZ0.out HZ1.out _ _ _ bs.length rfl rfl (by first | rfl | omega) (by rw [HZ2.out]; omega) (by unfold maxLen; omega) (Nat.le_refl _) ?_; intro w1 hown hg
       have HO1 : Hid (OwnB (.slice (some ⟨w.heap.size, 0, none⟩) 0 bs.length) [] w w1) := Lib.hid ⟨hown, (Below.refl _ _).grown hg (Nat.le_refl _) (by intro k hk; cases hk)⟩
       clear hown hg))
  go_loopw [3, 4] (fun vo vi wr => ∃ (i : Nat) (v : Value), i ≤ bs.length ∧ vi = .int .i64 i ∧ v = vo ∧ Hid (OwnB v (noCR (bs.take i)) w wr)) (fun _ vi _ => bs.length - (intOf vi).toNat)
  case atStart => exact ⟨0, _, by omega, rfl, rfl, HO1⟩
  case round =>
    obtain ⟨i, vo, hi, rfl, rfl, HO⟩ := hrel
    by_cases hlt : i < bs.length
    · have hlt' : (i : Int) < (bs.length : Int) := by omega
      have ci := (HO.out.2.cell (World.block_lt_of_cell? w _ (HC.out i hlt))).trans (HC.out i hlt)
      obtain ⟨x, hx⟩ : ∃ x : UInt8, x = bs[i]'hlt := ⟨_, rfl⟩
      have hbx : bt bs i = x.toNat := by
        unfold bt
        rw [hx, List.getD_eq_getElem?_getD, List.getElem?_eq_getElem hlt, Option.getD_some]
      have hsn : bs.take (i + 1) = bs.take i ++ [x] := by rw [List.take_succ_eq_append_getElem hlt, hx]
      have hln : (noCR (bs.take i)).length ≤ bs.length := by
        unfold noCR
        exact Nat.le_trans (List.length_filter_le _ _) (by rw [List.length_take]; omega)
      rw [hbx] at ci
      by_cases k13 : x.toNat = 13
      · have t13 : ((x.toNat : Int) != 13) = false := by simp; omega
        have hno : noCR (bs.take (i + 1)) = noCR (bs.take i) := by
          rw [hsn]
          unfold noCR
          rw [List.filter_append]
          simp [k13]
        have HO2 : Hid (OwnB vo (noCR (bs.take (i + 1))) w wr) := Lib.hid (by rw [hno]; exact HO.out)
        clear hx hbx hsn hno k13
        go_wp2_with fail
        go_roundw
        case rel => exact ⟨i + 1, _, by omega, by go_num, rfl, HO2⟩
        case measure => simp [intOf]; omega
      · have t13 : ((x.toNat : Int) != 13) = true := by simp; omega
        have HNO := Lib.hid (show noCR (bs.take (i + 1)) = noCR (bs.take i) ++ [x] by
          rw [hsn]
          unfold noCR
          rw [List.filter_append]
          simp [k13])
        clear hx hbx hsn k13
        go_wp2_with (first
          | (at_builtin; refine wpList_append_own _ rfl _ _ 22 rfl w.heap.size 5 i0 (.int .u8 0) 1 1 Tryf.underlying22 HI.out HZ0.out HZ1.out HZ2.out rfl (by decide) _ _ _ rfl (HO.out.1.alloc _) ⟨wr.heap.size, 0, none⟩ 1 1 [.int .u8 (x.toNat : Int)] rfl rfl ?c1 ?c2 ?c3 ?c4 ?c5 ?_))
        case c1 => exact cell_one_new _ _ _
        case c2 => intro u hu; simp at hu; subst hu; rfl
        case c3 => unfold maxLen; omega
        case c4 => omega
        case c5 => have := HO.out.2.size; simp; omega
        intro v2 w2 hown2 hg2 _
        have HO2 : Hid (OwnB v2 (noCR (bs.take (i + 1))) w w2) := Lib.hid (by rw [HNO.out]; exact HO.out.app1 (x := x) hown2 hg2)
        clear hown2 hg2 HO
        go_wp2_with fail
        go_roundw
        case rel => exact ⟨i + 1, _, by omega, by go_num, rfl, HO2⟩
        case measure => simp [intOf]; omega
    · have hlt' : ¬ (i : Int) < (bs.length : Int) := by omega
      have HO2 : Hid (OwnB vo (noCR bs) w wr) := Lib.hid (by have := HO.out; rwa [List.take_of_length_le (by omega)] at this)
      go_wp2_with fail
      go_ret
      exact ⟨vo, rfl, HO2.out⟩
set_option maxHeartbeats 1000000 in
theorem same_any (s : ByteArray) (a : Option Addr) (cap : Nat) (w : World) (hs : s.size ≤ 2000000) (hc : 0 < s.size → ∃ b o, a = some ⟨b, o, none⟩ ∧ ∀ j, j < s.size → w.cell? ⟨b, o + j, none⟩ = some (.int .u8 (bt s.data.toList j))) :
    Calls Tryf.prog 18 #[.string s, .slice a s.size cap] w fun e w' => e = .returned (.bool true) ∧ ∃ k, w' = w.drewN k := by
  have HC := Lib.hid hc
  clear hc
  have n0 : ((s.size : Int) != (s.size : Int)) = false := by simp
  go_enter Tryf.func18, Tryf.ntmps18
  go_wp2_with fail
  go_loopw [5] (fun vi wr => ∃ (i k : Nat), i ≤ s.size ∧ vi = .int .i64 i ∧ wr = w.drewN k) (fun vi _ => s.size - (intOf vi).toNat)
  case atStart => exact ⟨0, 0, by omega, rfl, rfl⟩
  case round =>
    obtain ⟨i, k, hi, rfl, rfl⟩ := hrel
    by_cases hlt : i < s.size
    · have hlt' : (i : Int) < (s.size : Int) := by omega
      obtain ⟨b, o, rfl, hcc⟩ := HC.out (by omega)
      have ci := hcc i hlt
      rw [str_bt s i hlt] at ci
      have ne : ((s[i].toNat : Int) != (s[i].toNat : Int)) = false := by simp
      clear hcc
      go_wp2_with fail
      go_quiet (fail)
      go_wp2_with fail
      go_roundw
      case rel => exact ⟨i + 1, _, by omega, by go_num, rfl⟩
      case measure => simp [intOf]; omega
    · have hlt' : ¬ (i : Int) < (s.size : Int) := by omega
      go_wp2_with fail
      go_ret
      exact ⟨rfl, k, rfl⟩
set_option maxHeartbeats 1000000 in
theorem rawEnd_any (b o cap : Nat) (bs : List UInt8) (w : World) (hc : ∀ j, j < bs.length → w.cell? ⟨b, o + j, none⟩ = some (.int .u8 (bt bs j))) (hl : 1 ≤ bs.length) (hn : bs.length ≤ 1048577) :
    Calls Tryf.prog 23 #[.slice (some ⟨b, o, none⟩) bs.length cap] w fun e w' => e = .returned (.tuple #[.int .i64 (rawEnd bs 1).1, .bool (rawEnd bs 1).2]) ∧ w = w' := by
  have HC := Lib.hid hc
  clear hc
  go_enter Tryf.func23, Tryf.ntmps23
  go_wp2_with fail
  go_loop [4] (fun v => ∃ i : Nat, 1 ≤ i ∧ i ≤ bs.length ∧ v = .int .i64 i ∧ Hid (rawEnd bs 1 = rawEnd bs i)) (fun v => bs.length - (intOf v).toNat)
  case atStart => exact ⟨1, by omega, by omega, rfl, Lib.hid rfl⟩
  case round =>
    obtain ⟨i, h1, hi, rfl, HE⟩ := hrel
    by_cases hlt : i < bs.length
    · have hlt' : (i : Int) < (bs.length : Int) := by omega
      have ci := HC.out i hlt
      by_cases k : bt bs i = 96
      · have t : (((bt bs i : Nat) : Int) == 96) = true := by rw [beq_iff_eq]; omega
        have HQ := Lib.hid (HE.out.trans (rawEnd_yes hlt k))
        clear k
        generalize bt bs i = c at *
        go_wp2_with fail
        go_ret2
        exact ⟨by rw [HQ.out]; first | done | rfl | (simp; done), rfl⟩
      · have t : (((bt bs i : Nat) : Int) == 96) = false := by rw [beq_eq_false_iff_ne]; omega
        have HQ := Lib.hid (HE.out.trans (rawEnd_no hlt k))
        clear k
        generalize bt bs i = c at *
        go_wp2_with fail
        go_round
        case rel => exact ⟨i + 1, by omega, by omega, by go_num, HQ⟩
        case measure => simp [intOf]; omega
    · have hlt' : ¬ (i : Int) < (bs.length : Int) := by omega
      have HQ := Lib.hid (HE.out.trans (rawEnd_end (by omega)))
      go_wp2_with fail
      go_ret2
      exact ⟨by rw [HQ.out]; first | done | rfl, rfl⟩
set_option maxHeartbeats 2000000 in
theorem strEnd_any (b o cap : Nat) (bs : List UInt8) (w : World) (hc : ∀ j, j < bs.length → w.cell? ⟨b, o + j, none⟩ = some (.int .u8 (bt bs j))) (hl : 1 ≤ bs.length) (hn : bs.length ≤ 1048577) :
    Calls Tryf.prog 17 #[.slice (some ⟨b, o, none⟩) bs.length cap] w fun e w' => e = .returned (.tuple #[.int .i64 (strEnd bs 1).1, .bool (strEnd bs 1).2]) ∧ w = w' := by
  have HC := Lib.hid hc
  clear hc
  go_enter Tryf.func17, Tryf.ntmps17
  go_wp2_with fail
  go_loop [4, 5] (fun v _ => ∃ i : Nat, 1 ≤ i ∧ i ≤ bs.length ∧ v = .int .i64 i ∧ Hid (strEnd bs 1 = strEnd bs i)) (fun v _ => bs.length - (intOf v).toNat)
  case atStart => exact ⟨1, by omega, by omega, rfl, Lib.hid rfl⟩
  case round =>
    obtain ⟨i, h1, hi, rfl, HE⟩ := hrel
    by_cases hlt : i < bs.length
    · have hlt' : (i : Int) < (bs.length : Int) := by omega
      have ci := HC.out i hlt
      by_cases k10 : bt bs i = 10
      · have t10 : (((bt bs i : Nat) : Int) == 10) = true := by rw [beq_iff_eq]; omega
        have HQ := Lib.hid (HE.out.trans (strEnd_nl hlt k10))
        clear k10
        generalize bt bs i = c at *
        go_wp2_with fail
        go_ret2
        exact ⟨by rw [HQ.out]; first | done | rfl, rfl⟩
      · have t10 : (((bt bs i : Nat) : Int) == 10) = false := by rw [beq_eq_false_iff_ne]; omega
        by_cases k34 : bt bs i = 34
        · have t34 : (((bt bs i : Nat) : Int) == 34) = true := by rw [beq_iff_eq]; omega
          have HQ := Lib.hid (HE.out.trans (strEnd_quote hlt k34))
          clear k10 k34
          generalize bt bs i = c at *
          go_wp2_with fail
          go_ret2
          exact ⟨by rw [HQ.out]; first | done | rfl | (simp; done), rfl⟩
        · have t34 : (((bt bs i : Nat) : Int) == 34) = false := by rw [beq_eq_false_iff_ne]; omega
          by_cases k92 : bt bs i = 92
          · have t92 : (((bt bs i : Nat) : Int) == 92) = true := by rw [beq_iff_eq]; omega
            by_cases kl : i + 1 < bs.length
            · have tl : (i : Int) + 1 < (bs.length : Int) := by omega
              have ci1 := HC.out (i + 1) kl
              by_cases m92 : bt bs (i + 1) = 92
              · have u92 : (((bt bs (i + 1) : Nat) : Int) == 92) = true := by rw [beq_iff_eq]; omega
                have HQ := Lib.hid (HE.out.trans (strEnd_pair kl k92 (.inl m92)))
                clear k10 k34 k92 m92
                generalize bt bs i = c at *
                generalize bt bs (i + 1) = c1 at *
                go_wp2_with fail
                go_round
                case rel => exact ⟨i + 2, by omega, by omega, by go_num, HQ⟩
                case measure => simp [intOf]; omega
              · have u92 : (((bt bs (i + 1) : Nat) : Int) == 92) = false := by rw [beq_eq_false_iff_ne]; omega
                by_cases m34 : bt bs (i + 1) = 34
                · have u34 : (((bt bs (i + 1) : Nat) : Int) == 34) = true := by rw [beq_iff_eq]; omega
                  have HQ := Lib.hid (HE.out.trans (strEnd_pair kl k92 (.inr m34)))
                  clear k10 k34 k92 m92 m34
                  generalize bt bs i = c at *
                  generalize bt bs (i + 1) = c1 at *
                  go_wp2_with fail
                  go_round
                  case rel => exact ⟨i + 2, by omega, by omega, by go_num, HQ⟩
                  case measure => simp [intOf]; omega
                · have u34 : (((bt bs (i + 1) : Nat) : Int) == 34) = false := by rw [beq_eq_false_iff_ne]; omega
                  have HQ := Lib.hid (HE.out.trans (strEnd_one hlt k10 k34 (fun hh => by omega)))
                  clear k10 k34 k92 m92 m34
                  generalize bt bs i = c at *
                  generalize bt bs (i + 1) = c1 at *
                  go_wp2_with fail
                  go_round
                  case rel => exact ⟨i + 1, by omega, by omega, by go_num, HQ⟩
                  case measure => simp [intOf]; omega
            · have tl : decide ((i : Int) + 1 < (bs.length : Int)) = false := decide_eq_false (by omega)
              have HQ := Lib.hid (HE.out.trans (strEnd_one hlt k10 k34 (fun hh => by omega)))
              clear k10 k34 k92
              generalize bt bs i = c at *
              go_wp2_with fail
              go_round
              case rel => exact ⟨i + 1, by omega, by omega, by go_num, HQ⟩
              case measure => simp [intOf]; omega
          · have t92 : (((bt bs i : Nat) : Int) == 92) = false := by rw [beq_eq_false_iff_ne]; omega
            have HQ := Lib.hid (HE.out.trans (strEnd_one hlt k10 k34 (fun hh => by omega)))
            clear k10 k34 k92
            generalize bt bs i = c at *
            go_wp2_with fail
            go_round
            case rel => exact ⟨i + 1, by omega, by omega, by go_num, HQ⟩
            case measure => simp [intOf]; omega
    · have hlt' : ¬ (i : Int) < (bs.length : Int) := by omega
      have HQ := Lib.hid (HE.out.trans (strEnd_end (by omega)))
      go_wp2_with fail
      go_ret2
      exact ⟨by rw [HQ.out]; first | done | rfl, rfl⟩
end Go.Proofs.YtpdfompeoceklaaFmt.Lead
