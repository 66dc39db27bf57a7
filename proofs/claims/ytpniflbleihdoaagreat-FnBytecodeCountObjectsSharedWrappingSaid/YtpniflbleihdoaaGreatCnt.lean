/-
  Proved: CountObjects, kind by kind: a leaf counts 1; an array, a map 1 and its elements; an error 1 and what it holds.
  Conditions: what is counted stays far below the greatest int.
-/
import Derived.Test.YtpniflbleihdoaaGreatProg
import Derived.Test.YtpniflbleihdoaaGreatBase
import Derived.WalkKit
import Derived.ProofKit
import Derived.Handy
import Derived.Lib.Hide
import Derived.IntWalk
import Derived.Laws.IdiomRangeMap
import Derived.Maps.RangeRun
import Derived.Deep.LoopGhost
namespace Go.Proofs.YtpniflbleihdoaaGreat.Core
open Go.ChangeShapes Go.WideShapes Go.ChangeAt Go.RowKit
set_option linter.unusedVariables false

/-! ### Type assertions. -/
theorem as_int_arr (v : Value) (w : World) : (Instr.typeAssert (.iface 46 v) 43 36 true).run Tryz.prog w = .ok (.tuple #[.pointer none, .bool false]) w := by kernel_rfl
theorem as_int_ima (v : Value) (w : World) : (Instr.typeAssert (.iface 46 v) 43 54 true).run Tryz.prog w = .ok (.tuple #[.pointer none, .bool false]) w := by kernel_rfl
theorem as_int_map (v : Value) (w : World) : (Instr.typeAssert (.iface 46 v) 43 57 true).run Tryz.prog w = .ok (.tuple #[.pointer none, .bool false]) w := by kernel_rfl
theorem as_int_imm (v : Value) (w : World) : (Instr.typeAssert (.iface 46 v) 43 67 true).run Tryz.prog w = .ok (.tuple #[.pointer none, .bool false]) w := by kernel_rfl
theorem as_int_err (v : Value) (w : World) : (Instr.typeAssert (.iface 46 v) 43 41 true).run Tryz.prog w = .ok (.tuple #[.pointer none, .bool false]) w := by kernel_rfl
theorem as_str_arr (v : Value) (w : World) : (Instr.typeAssert (.iface 49 v) 43 36 true).run Tryz.prog w = .ok (.tuple #[.pointer none, .bool false]) w := by kernel_rfl
theorem as_str_ima (v : Value) (w : World) : (Instr.typeAssert (.iface 49 v) 43 54 true).run Tryz.prog w = .ok (.tuple #[.pointer none, .bool false]) w := by kernel_rfl
theorem as_str_map (v : Value) (w : World) : (Instr.typeAssert (.iface 49 v) 43 57 true).run Tryz.prog w = .ok (.tuple #[.pointer none, .bool false]) w := by kernel_rfl
theorem as_str_imm (v : Value) (w : World) : (Instr.typeAssert (.iface 49 v) 43 67 true).run Tryz.prog w = .ok (.tuple #[.pointer none, .bool false]) w := by kernel_rfl
theorem as_str_err (v : Value) (w : World) : (Instr.typeAssert (.iface 49 v) 43 41 true).run Tryz.prog w = .ok (.tuple #[.pointer none, .bool false]) w := by kernel_rfl
theorem as_chr_arr (v : Value) (w : World) : (Instr.typeAssert (.iface 60 v) 43 36 true).run Tryz.prog w = .ok (.tuple #[.pointer none, .bool false]) w := by kernel_rfl
theorem as_chr_ima (v : Value) (w : World) : (Instr.typeAssert (.iface 60 v) 43 54 true).run Tryz.prog w = .ok (.tuple #[.pointer none, .bool false]) w := by kernel_rfl
theorem as_chr_map (v : Value) (w : World) : (Instr.typeAssert (.iface 60 v) 43 57 true).run Tryz.prog w = .ok (.tuple #[.pointer none, .bool false]) w := by kernel_rfl
theorem as_chr_imm (v : Value) (w : World) : (Instr.typeAssert (.iface 60 v) 43 67 true).run Tryz.prog w = .ok (.tuple #[.pointer none, .bool false]) w := by kernel_rfl
theorem as_chr_err (v : Value) (w : World) : (Instr.typeAssert (.iface 60 v) 43 41 true).run Tryz.prog w = .ok (.tuple #[.pointer none, .bool false]) w := by kernel_rfl
theorem as_flt_arr (v : Value) (w : World) : (Instr.typeAssert (.iface 63 v) 43 36 true).run Tryz.prog w = .ok (.tuple #[.pointer none, .bool false]) w := by kernel_rfl
theorem as_flt_ima (v : Value) (w : World) : (Instr.typeAssert (.iface 63 v) 43 54 true).run Tryz.prog w = .ok (.tuple #[.pointer none, .bool false]) w := by kernel_rfl
theorem as_flt_map (v : Value) (w : World) : (Instr.typeAssert (.iface 63 v) 43 57 true).run Tryz.prog w = .ok (.tuple #[.pointer none, .bool false]) w := by kernel_rfl
theorem as_flt_imm (v : Value) (w : World) : (Instr.typeAssert (.iface 63 v) 43 67 true).run Tryz.prog w = .ok (.tuple #[.pointer none, .bool false]) w := by kernel_rfl
theorem as_flt_err (v : Value) (w : World) : (Instr.typeAssert (.iface 63 v) 43 41 true).run Tryz.prog w = .ok (.tuple #[.pointer none, .bool false]) w := by kernel_rfl
theorem as_arr_arr (v : Value) (w : World) : (Instr.typeAssert (.iface 36 v) 43 36 true).run Tryz.prog w = .ok (.tuple #[v, .bool true]) w := by kernel_rfl
theorem as_ima_arr (v : Value) (w : World) : (Instr.typeAssert (.iface 54 v) 43 36 true).run Tryz.prog w = .ok (.tuple #[.pointer none, .bool false]) w := by kernel_rfl
theorem as_ima_ima (v : Value) (w : World) : (Instr.typeAssert (.iface 54 v) 43 54 true).run Tryz.prog w = .ok (.tuple #[v, .bool true]) w := by kernel_rfl
theorem as_map_arr (v : Value) (w : World) : (Instr.typeAssert (.iface 57 v) 43 36 true).run Tryz.prog w = .ok (.tuple #[.pointer none, .bool false]) w := by kernel_rfl
theorem as_map_ima (v : Value) (w : World) : (Instr.typeAssert (.iface 57 v) 43 54 true).run Tryz.prog w = .ok (.tuple #[.pointer none, .bool false]) w := by kernel_rfl
theorem as_map_map (v : Value) (w : World) : (Instr.typeAssert (.iface 57 v) 43 57 true).run Tryz.prog w = .ok (.tuple #[v, .bool true]) w := by kernel_rfl
theorem as_imm_arr (v : Value) (w : World) : (Instr.typeAssert (.iface 67 v) 43 36 true).run Tryz.prog w = .ok (.tuple #[.pointer none, .bool false]) w := by kernel_rfl
theorem as_imm_ima (v : Value) (w : World) : (Instr.typeAssert (.iface 67 v) 43 54 true).run Tryz.prog w = .ok (.tuple #[.pointer none, .bool false]) w := by kernel_rfl
theorem as_imm_map (v : Value) (w : World) : (Instr.typeAssert (.iface 67 v) 43 57 true).run Tryz.prog w = .ok (.tuple #[.pointer none, .bool false]) w := by kernel_rfl
theorem as_imm_imm (v : Value) (w : World) : (Instr.typeAssert (.iface 67 v) 43 67 true).run Tryz.prog w = .ok (.tuple #[v, .bool true]) w := by kernel_rfl
theorem as_err_arr (v : Value) (w : World) : (Instr.typeAssert (.iface 41 v) 43 36 true).run Tryz.prog w = .ok (.tuple #[.pointer none, .bool false]) w := by kernel_rfl
theorem as_err_ima (v : Value) (w : World) : (Instr.typeAssert (.iface 41 v) 43 54 true).run Tryz.prog w = .ok (.tuple #[.pointer none, .bool false]) w := by kernel_rfl
theorem as_err_map (v : Value) (w : World) : (Instr.typeAssert (.iface 41 v) 43 57 true).run Tryz.prog w = .ok (.tuple #[.pointer none, .bool false]) w := by kernel_rfl
theorem as_err_imm (v : Value) (w : World) : (Instr.typeAssert (.iface 41 v) 43 67 true).run Tryz.prog w = .ok (.tuple #[.pointer none, .bool false]) w := by kernel_rfl
theorem as_err_err (v : Value) (w : World) : (Instr.typeAssert (.iface 41 v) 43 41 true).run Tryz.prog w = .ok (.tuple #[v, .bool true]) w := by kernel_rfl

/-- What counting leaves. -/
def Says (w : World) (n : Nat) (e : Ending) (w' : World) : Prop := e = .returned (.int .i64 n) ∧ Below w.heap.size w w'
/-- v counts n, in w and in every later world. -/
def Counts (w : World) (v : Value) (n : Nat) : Prop := ∀ w', Below w.heap.size w w' → Calls Tryz.prog 10 #[v] w' (Says w' n)
theorem Counts.later {w w1 : World} {v : Value} {n : Nat} (h : Counts w v n) (hb : Below w.heap.size w w1) : Counts w1 v n := fun w' h' => h w' (hb.trans (h'.mono hb.size))
def tot (c : Nat → Nat) : Nat → Nat
  | 0 => 0
  | k + 1 => tot c k + c k
theorem tot_mono (c : Nat → Nat) {i m : Nat} (h : i ≤ m) : tot c i ≤ tot c m := by
  induction h with
  | refl => exact Nat.le_refl _
  | step _ ih => exact Nat.le_trans ih (Nat.le_add_right _ _)
/-- The m values of a slice. -/
def Row (w : World) (A : Option Addr) (m : Nat) (u : Nat → Value) : Prop := 0 < m → ∃ g, A = some ⟨g, 0, none⟩ ∧ ∀ j, j < m → w.cell? ⟨g, j, none⟩ = some (u j)
theorem Row.later {w w' : World} {A : Option Addr} {m : Nat} {u : Nat → Value} (h : Row w A m u) (hb : Below w.heap.size w w') : Row w' A m u := by
  intro hp
  obtain ⟨g, rfl, hc⟩ := h hp
  exact ⟨g, rfl, fun j hj => (hb.cell (World.block_lt_of_cell? w _ (hc j hj))).trans (hc j hj)⟩
/-! ### Leaves. -/
theorem leaf_int (x : Value) (w : World) : Counts w (.iface 46 x) 1 := by
  intro w' _
  have f_arr := as_int_arr
  have f_ima := as_int_ima
  have f_map := as_int_map
  have f_imm := as_int_imm
  have f_err := as_int_err
  go_enter Tryz.func10, Tryz.ntmps10
  go_big_wp2_with fail
  go_ret
  exact ⟨rfl, Below.refl _ _⟩
theorem leaf_str (x : Value) (w : World) : Counts w (.iface 49 x) 1 := by
  intro w' _
  have f_arr := as_str_arr
  have f_ima := as_str_ima
  have f_map := as_str_map
  have f_imm := as_str_imm
  have f_err := as_str_err
  go_enter Tryz.func10, Tryz.ntmps10
  go_big_wp2_with fail
  go_ret
  exact ⟨rfl, Below.refl _ _⟩
theorem leaf_chr (x : Value) (w : World) : Counts w (.iface 60 x) 1 := by
  intro w' _
  have f_arr := as_chr_arr
  have f_ima := as_chr_ima
  have f_map := as_chr_map
  have f_imm := as_chr_imm
  have f_err := as_chr_err
  go_enter Tryz.func10, Tryz.ntmps10
  go_big_wp2_with fail
  go_ret
  exact ⟨rfl, Below.refl _ _⟩
theorem leaf_flt (x : Value) (w : World) : Counts w (.iface 63 x) 1 := by
  intro w' _
  have f_arr := as_flt_arr
  have f_ima := as_flt_ima
  have f_map := as_flt_map
  have f_imm := as_flt_imm
  have f_err := as_flt_err
  go_enter Tryz.func10, Tryz.ntmps10
  go_big_wp2_with fail
  go_ret
  exact ⟨rfl, Below.refl _ _⟩
set_option maxHeartbeats 2000000 in
set_option maxRecDepth 20000 in
theorem count_arr (g m cap : Nat) (A : Option Addr) (u : Nat → Value) (c : Nat → Nat) (w : World) (hg : w.cell? ⟨g, 0, none⟩ = some (.slice A m cap)) (hr : Row w A m u) (hc : ∀ j, j < m → Counts w (u j) (c j)) (hm : m ≤ 1000000) (ht : tot c m ≤ 4611686018427387904) :
    Calls Tryz.prog 10 #[.iface 36 (.pointer (some ⟨g, 0, none⟩))] w (Says w (1 + tot c m)) := by
  have f_arr := as_arr_arr
  have HR := Lib.hid hr
  have HC := Lib.hid hc
  clear hr hc
  go_enter Tryz.func10, Tryz.ntmps10
  go_big_wp2_with fail
  go_loopw [2, 25] (fun vc vi wr => ∃ i : Nat, i ≤ m ∧ vi = .int .i64 i ∧ vc = .int .i64 ((1 + tot c i : Nat) : Int) ∧ Hid (Below w.heap.size w wr)) (fun _ vi _ => m - (intOf vi).toNat)
  case atStart => exact ⟨0, by omega, rfl, rfl, Lib.hid (Below.refl _ _)⟩
  case round =>
    obtain ⟨i, hi, rfl, rfl, HB⟩ := hrel
    by_cases hlt : i < m
    · have hlt' : (i : Int) < (m : Int) := by omega
      obtain ⟨G, rfl, hcell⟩ := (HR.out.later HB.out) (by omega)
      have hci := hcell i hlt
      have hz := tot_mono c (show i + 1 ≤ m by omega)
      have hz2 : tot c (i + 1) = tot c i + c i := rfl
      have TZ := Lib.hid hz2
      have hb1 : tot c i + c i ≤ 4611686018427387904 := by omega
      clear hcell hz hz2
      have CK := Lib.hid (HC.out i hlt wr HB.out)
      go_big_wp2_with (go_at_call 10; refine CK.out.mono ?_; rintro e w1 ⟨rfl, hb⟩)
      have HB1 := Lib.hid (HB.out.trans (hb.mono HB.out.size))
      clear hb
      go_roundw
      case rel => exact ⟨i + 1, by omega, by go_num, by rw [TZ.out]; go_num, HB1⟩
      case measure => simp [intOf]; omega
    · have hlt' : ¬ (i : Int) < (m : Int) := by omega
      have : i = m := by omega
      subst this
      go_big_wp2_with fail
      go_ret
      exact ⟨rfl, HB.out⟩
set_option maxHeartbeats 2000000 in
set_option maxRecDepth 20000 in
theorem count_ima (g m cap : Nat) (A : Option Addr) (u : Nat → Value) (c : Nat → Nat) (w : World) (hg : w.cell? ⟨g, 0, none⟩ = some (.slice A m cap)) (hr : Row w A m u) (hc : ∀ j, j < m → Counts w (u j) (c j)) (hm : m ≤ 1000000) (ht : tot c m ≤ 4611686018427387904) :
    Calls Tryz.prog 10 #[.iface 54 (.pointer (some ⟨g, 0, none⟩))] w (Says w (1 + tot c m)) := by
  have f_arr := as_ima_arr
  have f_ima := as_ima_ima
  have HR := Lib.hid hr
  have HC := Lib.hid hc
  clear hr hc
  go_enter Tryz.func10, Tryz.ntmps10
  go_big_wp2_with fail
  go_loopw [2, 42] (fun vc vi wr => ∃ i : Nat, i ≤ m ∧ vi = .int .i64 i ∧ vc = .int .i64 ((1 + tot c i : Nat) : Int) ∧ Hid (Below w.heap.size w wr)) (fun _ vi _ => m - (intOf vi).toNat)
  case atStart => exact ⟨0, by omega, rfl, rfl, Lib.hid (Below.refl _ _)⟩
  case round =>
    obtain ⟨i, hi, rfl, rfl, HB⟩ := hrel
    by_cases hlt : i < m
    · have hlt' : (i : Int) < (m : Int) := by omega
      obtain ⟨G, rfl, hcell⟩ := (HR.out.later HB.out) (by omega)
      have hci := hcell i hlt
      have hz := tot_mono c (show i + 1 ≤ m by omega)
      have hz2 : tot c (i + 1) = tot c i + c i := rfl
      have TZ := Lib.hid hz2
      have hb1 : tot c i + c i ≤ 4611686018427387904 := by omega
      clear hcell hz hz2
      have CK := Lib.hid (HC.out i hlt wr HB.out)
      go_big_wp2_with (go_at_call 10; refine CK.out.mono ?_; rintro e w1 ⟨rfl, hb⟩)
      have HB1 := Lib.hid (HB.out.trans (hb.mono HB.out.size))
      clear hb
      go_roundw
      case rel => exact ⟨i + 1, by omega, by go_num, by rw [TZ.out]; go_num, HB1⟩
      case measure => simp [intOf]; omega
    · have hlt' : ¬ (i : Int) < (m : Int) := by omega
      have : i = m := by omega
      subst this
      go_big_wp2_with fail
      go_ret
      exact ⟨rfl, HB.out⟩

/-- A value that CountObjects takes for a leaf, whatever the memory. -/
def IsLeaf (v : Value) : Prop := ∃ x, v = .iface 46 x ∨ v = .iface 49 x ∨ v = .iface 60 x ∨ v = .iface 63 x
theorem IsLeaf.counts {v : Value} (h : IsLeaf v) (w : World) : Counts w v 1 := by
  obtain ⟨x, rfl | rfl | rfl | rfl⟩ := h
  · exact leaf_int x w
  · exact leaf_str x w
  · exact leaf_chr x w
  · exact leaf_flt x w
theorem tot_one : ∀ m, tot (fun _ => 1) m = m
  | 0 => rfl
  | m + 1 => by rw [tot, tot_one m]

/-! ### Maps. -/
theorem left_one (seen : Array Nat) (e : MapEntry) (hs : seen.contains e.born = false) : ∀ (l : List MapEntry), (l.map (·.born)).Nodup → e ∈ l → (l.filter fun x => !(seen.push e.born).contains x.born).length + 1 = (l.filter fun x => !seen.contains x.born).length
  | x :: l, hn, he => by
    have hn' : x.born ∉ l.map (·.born) ∧ (l.map (·.born)).Nodup := List.nodup_cons.1 hn
    rcases List.mem_cons.1 he with rfl | h
    · have e1 : (l.filter fun x => !(seen.push e.born).contains x.born) = l.filter fun x => !seen.contains x.born := by
        refine List.filter_congr fun y hy => ?_
        have hne : (y.born == e.born) = false := by
          rw [beq_eq_false_iff_ne]
          intro e2
          exact hn'.1 (by rw [← e2]; exact List.mem_map.2 ⟨y, hy, rfl⟩)
        rw [contains_push, hne, Bool.or_false]
      have p1 : (!(seen.push e.born).contains e.born) = false := by rw [contains_push, beq_self_eq_true, Bool.or_true]; rfl
      have p2 : (!seen.contains e.born) = true := by rw [hs]; rfl
      rw [List.filter_cons, p1, List.filter_cons, p2, e1]
      simp
    · have ih := left_one seen e hs l hn'.2 h
      have hne : (x.born == e.born) = false := by
        rw [beq_eq_false_iff_ne]
        intro e2
        exact hn'.1 (by rw [e2]; exact List.mem_map.2 ⟨e, h, rfl⟩)
      have p1 : (!(seen.push e.born).contains x.born) = (!seen.contains x.born) := by rw [contains_push, hne, Bool.or_false]
      rw [List.filter_cons, p1, List.filter_cons]
      split
      · simp only [List.length_cons]; omega
      · exact ih
theorem left_size (es : Array MapEntry) (seen : Array Nat) : (leftOf es seen).size = (es.toList.filter fun x => !seen.contains x.born).length := by
  unfold leftOf
  rw [← Array.toList_filter, Array.length_toList]
theorem left_next {es : Array MapEntry} {seen : Array Nat} {e : MapEntry} (hn : (es.toList.map (·.born)).Nodup) (he : e ∈ (leftOf es seen).toList) : (leftOf es (seen.push e.born)).size + 1 = (leftOf es seen).size := by
  have hm := mem_left he
  rw [left_size, left_size]
  exact left_one seen e hm.2 es.toList hn hm.1
theorem left_all (es : Array MapEntry) : (leftOf es #[]).size = es.size := by
  rw [left_size, List.filter_eq_self.2 (fun x _ => by simp), Array.length_toList]
/-- A map's block whose elements are all leaves. -/
def Leaves (w : World) (bm k : Nat) : Prop := ∃ es clock, w.heap[bm]? = some (.map es clock) ∧ es.size = k ∧ (∀ x ∈ es.toList, IsLeaf x.val) ∧ (∀ x ∈ es.toList, x.born < clock) ∧ (es.toList.map (·.born)).Nodup
open Go.ChangeMaps (setBlock) in
/-- Where a loop over it stands: g entries to come. -/
def Rng (w wr : World) (es : Array MapEntry) (bm clock r g : Nat) : Prop := ∃ seen, (leftOf es seen).size = g ∧ wr.heap[r]? = some (.mapIter (some bm) clock seen clock) ∧ wr.heap[bm]? = some (.map es clock) ∧ Below w.heap.size w wr
open Go.ChangeMaps (setBlock) in
theorem Rng.next {w wr : World} {es : Array MapEntry} {bm clock r g : Nat} (h : Rng w wr es bm clock r g) (hold : ∀ x ∈ es.toList, x.born < clock) (hn : (es.toList.map (·.born)).Nodup) (hr : w.heap.size ≤ r) (hbm : bm < w.heap.size) :
    (g = 0 ∧ ∀ ty, (Instr.next (.pointer (some ⟨r, 0, none⟩)) false ty).run Tryz.prog wr = .ok (.tuple #[.bool false]) wr) ∨
    ∃ (key val : Value) (Y : World), (∃ x ∈ es.toList, x.val = val) ∧ (∀ ty, (Instr.next (.pointer (some ⟨r, 0, none⟩)) false ty).run Tryz.prog wr = .ok (.tuple #[.bool true, key, val]) Y) ∧ (Instr.entry (.pointer (some ⟨r, 0, none⟩))).run Tryz.prog Y = .ok (.tuple #[key, val]) Y ∧ 1 ≤ g ∧ Rng w Y es bm clock r (g - 1) := by
  obtain ⟨seen, hg, h1, h2, h3⟩ := h
  have hrl : r < wr.heap.size := (Array.getElem?_eq_some_iff.1 h1).1
  rcases run_next_at (P := Tryz.prog) wr 0 r bm clock clock seen es clock h1 h2 hold (Nat.le_refl _) with ⟨h0, hrun⟩ | ⟨e, he, w1, hal, hrun⟩
  · exact .inl ⟨by omega, fun _ => hrun⟩
  · have hm := mem_left he
    have hl := left_next hn he
    have w1h : w1.heap = wr.heap := by rcases hal with rfl | rfl <;> rfl
    have y1 : (setBlock w1 r (.mapIter (some bm) clock (seen.push e.born) clock)).heap[r]? = some (.mapIter (some bm) clock (seen.push e.born) clock) := by
      show (w1.heap.setIfInBounds r _)[r]? = _
      rw [w1h, Array.getElem?_setIfInBounds_self, if_pos hrl]
    have yo : ∀ i, i ≠ r → (setBlock w1 r (.mapIter (some bm) clock (seen.push e.born) clock)).heap[i]? = wr.heap[i]? := fun i hi => by
      show (w1.heap.setIfInBounds r _)[i]? = _
      rw [w1h, Array.getElem?_setIfInBounds_ne (Ne.symm hi)]
    have y2 := (yo bm (by omega)).trans h2
    have yb : Below w.heap.size w (setBlock w1 r (.mapIter (some bm) clock (seen.push e.born) clock)) := by
      refine ⟨?_, ?_, ?_, ?_, fun i hi => (yo i (by omega)).trans (h3.block i hi)⟩
      · rcases hal with rfl | rfl <;> exact h3.os
      · rcases hal with rfl | rfl <;> exact h3.tape
      · rcases hal with rfl | rfl <;> exact h3.output
      · show w.heap.size ≤ (w1.heap.setIfInBounds r _).size
        rw [w1h]
        simpa using h3.size
    exact .inr ⟨e.key, e.val, _, ⟨e, hm.1, rfl⟩, fun _ => hrun, run_entry_at _ r bm clock seen es clock e y1 y2 hm.1 hn, by omega, seen.push e.born, by omega, y1, y2, yb⟩
theorem Rng.later {w wr w' : World} {es : Array MapEntry} {bm clock r g : Nat} (h : Rng w wr es bm clock r g) (hb : Below wr.heap.size wr w') : Rng w w' es bm clock r g := by
  obtain ⟨seen, hg, h1, h2, h3⟩ := h
  exact ⟨seen, hg, (hb.block r (Array.getElem?_eq_some_iff.1 h1).1).trans h1, (hb.block bm (Array.getElem?_eq_some_iff.1 h2).1).trans h2, h3.trans (hb.mono h3.size)⟩
theorem Rng.below {w wr : World} {es : Array MapEntry} {bm clock r g : Nat} (h : Rng w wr es bm clock r g) : Below w.heap.size w wr := by obtain ⟨_, _, _, _, h3⟩ := h; exact h3
theorem Rng.start {w : World} {es : Array MapEntry} {bm clock : Nat} (hb : w.heap[bm]? = some (.map es clock)) : Rng w (w.alloc (.mapIter (some bm) clock #[] clock)) es bm clock w.heap.size es.size := by
  have hlt : bm < w.heap.size := (Array.getElem?_eq_some_iff.1 hb).1
  exact ⟨#[], left_all es, heap_alloc_new w _, (heap_alloc_old w _ hlt).trans hb, (Below.refl _ _).alloc (Nat.le_refl _) _⟩
set_option maxHeartbeats 2000000 in
set_option maxRecDepth 20000 in
theorem count_map (g bm k : Nat) (w : World) (hg : w.cell? ⟨g, 0, none⟩ = some (.map (some bm))) (hL : Leaves w bm k) (hk : k ≤ 1000000) :
    Calls Tryz.prog 10 #[.iface 57 (.pointer (some ⟨g, 0, none⟩))] w (Says w (1 + k)) := by
  have f_arr := as_map_arr
  have f_ima := as_map_ima
  have f_map := as_map_map
  obtain ⟨es, clock, hb, hsz, hleaf, hold, hn⟩ := hL
  have hbm : bm < w.heap.size := (Array.getElem?_eq_some_iff.1 hb).1
  have hrg := run_range_map (P := Tryz.prog) w 56 9 43 bm es clock Tryz.underlying56 hb
  have ST := Lib.hid (Rng.start hb)
  have HL := Lib.hid hleaf
  have HO := Lib.hid hold
  have HN := Lib.hid hn
  subst hsz
  clear hleaf hold hn hb
  go_enter Tryz.func10, Tryz.ntmps10
  go_big_wp2_with fail
  go_loopg [2] es.size (fun gh vc wr => ∃ n : Nat, n = gh ∧ n ≤ es.size ∧ vc = .int .i64 ((1 + (es.size - n) : Nat) : Int) ∧ Hid (Rng w wr es bm clock w.heap.size n))
  case atStart => exact ⟨es.size, rfl, Nat.le_refl _, by simp, ST⟩
  case round =>
    obtain ⟨n, rfl, hle, rfl, HR⟩ := hrel
    clear hrg
    rcases HR.out.next HO.out HN.out (Nat.le_refl _) hbm with ⟨h0, hnx⟩ | ⟨key, val, Y, hval, hnx, hen, hg1, hRY⟩
    · subst h0
      go_big_wp2_with fail
      go_ret
      exact ⟨by rfl, HR.out.below⟩
    · have RY := Lib.hid hRY
      obtain ⟨x, hx, hxv⟩ := hval
      have CL := Lib.hid ((show IsLeaf val by rw [← hxv]; exact HL.out x hx).counts Y Y (Below.refl _ _))
      have e1 : ((1 + (es.size - n) : Nat) : Int) + 1 = ((1 + (es.size - (n - 1)) : Nat) : Int) := by omega
      have hbd : 1 + (es.size - n) ≤ 2000000 := by omega
      clear hRY hx hxv x
      go_big_wp2_with (go_at_call 10; refine CL.out.mono ?_; rintro e w1 ⟨rfl, hb1⟩)
      have R1 := Lib.hid (RY.out.later hb1)
      clear hb1
      go_roundg (n - 1)
      case measure => omega
      case rel => exact ⟨n - 1, rfl, by omega, by first | (congr 1; done) | (congr 1; omega), R1⟩
set_option maxHeartbeats 2000000 in
set_option maxRecDepth 20000 in
theorem count_imm (g bm k : Nat) (w : World) (hg : w.cell? ⟨g, 0, none⟩ = some (.map (some bm))) (hL : Leaves w bm k) (hk : k ≤ 1000000) :
    Calls Tryz.prog 10 #[.iface 67 (.pointer (some ⟨g, 0, none⟩))] w (Says w (1 + k)) := by
  have f_arr := as_imm_arr
  have f_ima := as_imm_ima
  have f_map := as_imm_map
  have f_imm := as_imm_imm
  obtain ⟨es, clock, hb, hsz, hleaf, hold, hn⟩ := hL
  have hbm : bm < w.heap.size := (Array.getElem?_eq_some_iff.1 hb).1
  have hrg := run_range_map (P := Tryz.prog) w 56 9 43 bm es clock Tryz.underlying56 hb
  have ST := Lib.hid (Rng.start hb)
  have HL := Lib.hid hleaf
  have HO := Lib.hid hold
  have HN := Lib.hid hn
  subst hsz
  clear hleaf hold hn hb
  go_enter Tryz.func10, Tryz.ntmps10
  go_big_wp2_with fail
  go_loopg [2] es.size (fun gh vc wr => ∃ n : Nat, n = gh ∧ n ≤ es.size ∧ vc = .int .i64 ((1 + (es.size - n) : Nat) : Int) ∧ Hid (Rng w wr es bm clock w.heap.size n))
  case atStart => exact ⟨es.size, rfl, Nat.le_refl _, by simp, ST⟩
  case round =>
    obtain ⟨n, rfl, hle, rfl, HR⟩ := hrel
    clear hrg
    rcases HR.out.next HO.out HN.out (Nat.le_refl _) hbm with ⟨h0, hnx⟩ | ⟨key, val, Y, hval, hnx, hen, hg1, hRY⟩
    · subst h0
      go_big_wp2_with fail
      go_ret
      exact ⟨by rfl, HR.out.below⟩
    · have RY := Lib.hid hRY
      obtain ⟨x, hx, hxv⟩ := hval
      have CL := Lib.hid ((show IsLeaf val by rw [← hxv]; exact HL.out x hx).counts Y Y (Below.refl _ _))
      have e1 : ((1 + (es.size - n) : Nat) : Int) + 1 = ((1 + (es.size - (n - 1)) : Nat) : Int) := by omega
      have hbd : 1 + (es.size - n) ≤ 2000000 := by omega
      clear hRY hx hxv x
      go_big_wp2_with (go_at_call 10; refine CL.out.mono ?_; rintro e w1 ⟨rfl, hb1⟩)
      have R1 := Lib.hid (RY.out.later hb1)
      clear hb1
      go_roundg (n - 1)
      case measure => omega
      case rel => exact ⟨n - 1, rfl, by omega, by first | (congr 1; done) | (congr 1; omega), R1⟩
/-- An error over what counts n. -/
theorem count_err (g n : Nat) (v : Value) (w : World) (hg : w.cell? ⟨g, 0, none⟩ = some v) (hc : Counts w v n) (hn : n ≤ 4611686018427387904) :
    Calls Tryz.prog 10 #[.iface 41 (.pointer (some ⟨g, 0, none⟩))] w (Says w (1 + n)) := by
  have f_arr := as_err_arr
  have f_ima := as_err_ima
  have f_map := as_err_map
  have f_imm := as_err_imm
  have f_err := as_err_err
  have CK := Lib.hid (hc w (Below.refl _ _))
  clear hc
  go_enter Tryz.func10, Tryz.ntmps10
  go_big_wp2_with (go_at_call 10; refine CK.out.mono ?_; rintro e w1 ⟨rfl, hb⟩)
  go_ret
  exact ⟨by first | rfl | (congr 2; omega), hb⟩
end Go.Proofs.YtpniflbleihdoaaGreat.Core
