/-
  Proved: a row of Int objects that mkObjs makes; (*Int).Equals, (*Int).Copy; (*ImmutableArray).IsFalsy, Equals and Copy over such rows, by contract.
  Conditions: at most 131072 numbers.
-/
import Derived.Test.YtpniflbleihdoaaProg
import Derived.Test.YtpniflbleihdoaaBase
import Derived.WalkKit
import Derived.ProofKit
import Derived.Handy
import Derived.Lib.Hide
import Derived.Lib.LazyBuf
import Derived.IntWalk
import Derived.Deep.QuietTactic
import Derived.BigQuiet
import Derived.Deep.RegionWith
import Derived.Deep.OwnRows
import Derived.Maps.AppendAt
namespace Go.Proofs.Ytpniflbleihdoaa.Core
open Go.ChangeShapes Go.WideShapes Go.ChangeAt Go.RowKit
set_option linter.unusedVariables false

/-- A slice of integers that came in: nil, or a row of cells (the spare ones too). -/
def IsRow (k : IntKind) (w : World) (a : Option Addr) (len cap : Nat) (zs : List Int) : Prop :=
  (a = none ∧ len = 0 ∧ cap = 0 ∧ zs = []) ∨ ∃ x, a = some x ∧ len ≤ cap ∧ cap ≤ maxLen ∧ zs.length = cap ∧ (∀ i, i < zs.length → w.cell? (x.add i) = some (.int k (zs.getD i 0))) ∧ ∀ n ∈ zs, (Lit.int k n).wf = true
/-- The cells of a slice of int64: n numbers. -/
def Nums (w : World) (A : Option Addr) (n : Nat) (zs : List Int) : Prop := 0 < n → ∃ b o, A = some ⟨b, o, none⟩ ∧ ∀ j, j < n → w.cell? ⟨b, o + j, none⟩ = some (.int .i64 (zs.getD j 0))
theorem IsRow.nums {w : World} {a : Option Addr} {len cap : Nat} {zs : List Int} (h : IsRow .i64 w a len cap zs) : Nums w a len zs := by
  intro hp
  rcases h with ⟨_, rfl, _⟩ | ⟨x, rfl, h1, h2, h3, h4, h5⟩
  · omega
  · obtain ⟨b, o, sp⟩ := x
    have hs : sp = none := by
      have := h4 0 (by omega)
      unfold World.cell? Addr.add at this
      cases sp with
      | none => rfl
      | some y => simp at this; split at this <;> simp at this
    subst hs
    refine ⟨b, o, rfl, fun j hj => ?_⟩
    have := h4 j (by omega)
    rwa [Addr.add_lit] at this
theorem IsRow.len_le {k : IntKind} {w : World} {a : Option Addr} {len cap : Nat} {zs : List Int} (h : IsRow k w a len cap zs) : len ≤ maxLen := by
  rcases h with ⟨_, rfl, _⟩ | ⟨x, _, h1, h2, _⟩
  · exact Nat.zero_le _
  · omega
theorem Nums.keep {w w' : World} {A : Option Addr} {n : Nat} {zs : List Int} (h : Nums w A n zs) (ho : Only w w' []) : Nums w' A n zs := by
  intro hp
  obtain ⟨b, o, rfl, hc⟩ := h hp
  exact ⟨b, o, rfl, fun j hj => ho.cell (hc j hj) (by simp)⟩

/-- An Int object of the value n, from block B on. -/
def IntAt (w : World) (B : Nat) (v : Value) (n : Int) : Prop := ∃ b, B ≤ b ∧ v = .iface 39 (.pointer (some ⟨b, 0, none⟩)) ∧ w.cell? ⟨b, 0, none⟩ = some (.int .i64 n)
theorem IntAt.keep {w w' : World} {B : Nat} {v : Value} {n : Int} (h : IntAt w B v n) (ho : Only w w' []) : IntAt w' B v n := by
  obtain ⟨b, hb, rfl, hc⟩ := h
  exact ⟨b, hb, rfl, ho.cell hc (by simp)⟩
/-- The row while it is being filled: i cells done; its own block is the first new one. -/
def Fill (w wr : World) (n : Nat) (zs : List Int) (i : Nat) : Prop :=
  ∃ cs : Array Value, Hold wr w.heap.size 36 cs ∧ cs.size = n ∧ (∀ j, j < i → ∃ v, cs[j]? = some v ∧ IntAt wr (w.heap.size + 1) v (zs.getD j 0)) ∧ Only w wr []
theorem Fill.start (w : World) (n : Nat) (zs : List Int) (z : Value) : Fill w (w.alloc (.cells (madeCells #[z] n) 36)) n zs 0 :=
  ⟨_, Hold.fresh w _ _, by simp [madeCells], fun j hj => absurd hj (by omega), (Only.refl w []).fresh _⟩
theorem Fill.step {w wr : World} {n : Nat} {zs : List Int} {i : Nat} (h : Fill w wr n zs i) (hi : i < n) :
    Fill w ((wr.setCell ⟨w.heap.size, i, none⟩ (.iface 39 (.pointer (some ⟨wr.heap.size, 0, none⟩)))).alloc (.cells #[.int .i64 (zs[i]?.getD 0)] 41)) n zs (i + 1) := by
  obtain ⟨cs, h1, h2, h3, h4⟩ := h
  have hlt := h1.lt
  obtain ⟨x, hx⟩ : ∃ x, x = wr.setCell ⟨w.heap.size, i, none⟩ (.iface 39 (.pointer (some ⟨wr.heap.size, 0, none⟩))) := ⟨_, rfl⟩
  have hxs : x.heap.size = wr.heap.size := by rw [hx]; simp [World.setCell]
  have h1x := h1.put i (.iface 39 (.pointer (some ⟨wr.heap.size, 0, none⟩)))
  have h4x := h4.put (p := ⟨w.heap.size, i, none⟩) (.inr (Nat.le_refl _)) (.iface 39 (.pointer (some ⟨wr.heap.size, 0, none⟩)))
  have hcx : ∀ b, b ≠ w.heap.size → x.cell? ⟨b, 0, none⟩ = wr.cell? ⟨b, 0, none⟩ := fun b hb => by rw [hx]; exact World.cell?_of_block (Below.heap_setCell _ ⟨w.heap.size, i, none⟩ _ b hb)
  rw [← hx] at h1x h4x ⊢
  clear hx
  have hf := Hold.fresh x 41 #[.int .i64 (zs[i]?.getD 0)]
  refine ⟨_, h1x.later _, by simp [h2], fun j hj => ?_, h4x.fresh _⟩
  by_cases e : j = i
  · subst e
    refine ⟨_, by rw [Array.getElem?_setIfInBounds_self, if_pos (by omega)], wr.heap.size, by omega, rfl, ?_⟩
    rw [← hxs, List.getD_eq_getElem?_getD]
    exact hf.cellAt rfl
  · obtain ⟨v, hv, b, hb, rfl, hc⟩ := h3 j (by omega)
    refine ⟨_, by rw [Array.getElem?_setIfInBounds_ne (by omega)]; exact hv, b, hb, rfl, ?_⟩
    have hbl := World.block_lt_of_cell? wr _ hc
    simp at hbl
    exact (World.cell?_of_block (Below.heap_alloc x _ b (by omega))).trans ((hcx b (by omega)).trans hc)
theorem Fill.old {w wr : World} {n : Nat} {zs : List Int} {i : Nat} (h : Fill w wr n zs i) {A : Option Addr} (hs : Nums w A n zs) : Nums wr A n zs := by
  obtain ⟨_, _, _, _, h4⟩ := h
  exact hs.keep h4
theorem Fill.cell {w wr : World} {n : Nat} {zs : List Int} {i : Nat} (h : Fill w wr n zs i) (hi : i < n) : ∃ v, wr.cell? ⟨w.heap.size, i, none⟩ = some v := by
  obtain ⟨cs, h1, h2, _⟩ := h
  rw [h1.cell]
  exact ⟨_, Array.getElem?_eq_getElem (by omega)⟩
theorem Fill.free {w wr : World} {n : Nat} {zs : List Int} {i : Nat} (h : Fill w wr n zs i) (j : Nat) : wr.frozen? ⟨w.heap.size, j, none⟩ = false := by
  obtain ⟨cs, h1, _⟩ := h
  exact h1.free j
theorem Fill.lt {w wr : World} {n : Nat} {zs : List Int} {i : Nat} (h : Fill w wr n zs i) : w.heap.size < wr.heap.size := by
  obtain ⟨cs, h1, _⟩ := h
  exact h1.lt
/-- A row of Int objects: n of them, behind block G. -/
def Objs (w : World) (G n : Nat) (zs : List Int) : Prop := ∀ j, j < n → ∃ b, w.cell? ⟨G, j, none⟩ = some (.iface 39 (.pointer (some ⟨b, 0, none⟩))) ∧ w.cell? ⟨b, 0, none⟩ = some (.int .i64 (zs.getD j 0))
theorem Objs.keep {w w' : World} {G n : Nat} {zs : List Int} (h : Objs w G n zs) (ho : Only w w' []) : Objs w' G n zs := fun j hj => by
  obtain ⟨b, h1, h2⟩ := h j hj
  exact ⟨b, ho.cell h1 (by simp), ho.cell h2 (by simp)⟩
theorem Fill.done {w wr : World} {n : Nat} {zs : List Int} (h : Fill w wr n zs n) : Objs wr w.heap.size n zs ∧ Only w wr [] := by
  obtain ⟨cs, h1, h2, h3, h4⟩ := h
  refine ⟨fun j hj => ?_, h4⟩
  obtain ⟨v, hv, b, hb, rfl, hc⟩ := h3 j hj
  exact ⟨b, by rw [h1.cell]; exact hv, hc⟩
theorem objInfo : (Try.prog.info? 36).map (fun i => (i.zero, i.size, i.bytes)) = some (some .nilIface, 1, 16) := by kernel_rfl

/-- What mkObjs leaves. -/
def Made (w : World) (n : Nat) (zs : List Int) (e : Ending) (w' : World) : Prop := e = .returned (.slice (some ⟨w.heap.size, 0, none⟩) n n) ∧ Objs w' w.heap.size n zs ∧ Only w w' [] ∧ w.heap.size < w'.heap.size
set_option maxHeartbeats 1000000 in
theorem make_any (A : Option Addr) (n cap : Nat) (zs : List Int) (w : World) (hs : Nums w A n zs) (hn : n ≤ 131072) :
    Calls Try.prog 6 #[.slice A n cap] w (Made w n zs) := by
  have hmk := run_make_row' (P := Try.prog) 25 36 .nilIface 16 Try.underlying25 objInfo rfl .i64 .i64 n (by omega) (by omega)
  have HS := Lib.hid hs
  clear hs
  go_enter Try.func6, Try.ntmps6
  go_wp2_with fail
  clear hmk
  go_loopw [4] (fun vi wr => ∃ i : Nat, i ≤ n ∧ vi = .int .i64 i ∧ Hid (Fill w wr n zs i)) (fun vi _ => n - (intOf vi).toNat)
  case atStart => exact ⟨0, by omega, rfl, Lib.hid (Fill.start w n zs _)⟩
  case round =>
    obtain ⟨i, hi, rfl, HH⟩ := hrel
    by_cases hlt : i < n
    · have hlt' : (i : Int) < (n : Int) := by omega
      obtain ⟨b, o, rfl, hc⟩ := (HH.out.old HS.out) (by omega)
      have hci := hc i hlt
      have hfr := HH.out.free i
      have hsz := HH.out.lt
      obtain ⟨v, hv⟩ := HH.out.cell hlt
      clear hc
      go_wp2_with fail
      go_roundw
      case rel => exact ⟨i + 1, by omega, by go_num, Lib.hid (HH.out.step hlt)⟩
      case measure => simp [intOf]; omega
    · have hlt' : ¬ (i : Int) < (n : Int) := by omega
      have : i = n := by omega
      subst this
      go_wp2_with fail
      go_ret
      exact ⟨rfl, HH.out.done.1, HH.out.done.2, HH.out.lt⟩

/-! ### Type assertions. -/
theorem as_int_arr (v : Value) (w : World) : (Instr.typeAssert (.iface 39 v) 36 33 true).run Try.prog w = .ok (.tuple #[.pointer none, .bool false]) w := by kernel_rfl
theorem as_int_ima (v : Value) (w : World) : (Instr.typeAssert (.iface 39 v) 36 24 true).run Try.prog w = .ok (.tuple #[.pointer none, .bool false]) w := by kernel_rfl
theorem as_str_arr (v : Value) (w : World) : (Instr.typeAssert (.iface 42 v) 36 33 true).run Try.prog w = .ok (.tuple #[.pointer none, .bool false]) w := by kernel_rfl
theorem as_str_ima (v : Value) (w : World) : (Instr.typeAssert (.iface 42 v) 36 24 true).run Try.prog w = .ok (.tuple #[.pointer none, .bool false]) w := by kernel_rfl
theorem as_byt_arr (v : Value) (w : World) : (Instr.typeAssert (.iface 46 v) 36 33 true).run Try.prog w = .ok (.tuple #[.pointer none, .bool false]) w := by kernel_rfl
theorem as_byt_ima (v : Value) (w : World) : (Instr.typeAssert (.iface 46 v) 36 24 true).run Try.prog w = .ok (.tuple #[.pointer none, .bool false]) w := by kernel_rfl
theorem as_map_arr (v : Value) (w : World) : (Instr.typeAssert (.iface 50 v) 36 33 true).run Try.prog w = .ok (.tuple #[.pointer none, .bool false]) w := by kernel_rfl
theorem as_map_ima (v : Value) (w : World) : (Instr.typeAssert (.iface 50 v) 36 24 true).run Try.prog w = .ok (.tuple #[.pointer none, .bool false]) w := by kernel_rfl
theorem as_imm_arr (v : Value) (w : World) : (Instr.typeAssert (.iface 54 v) 36 33 true).run Try.prog w = .ok (.tuple #[.pointer none, .bool false]) w := by kernel_rfl
theorem as_imm_ima (v : Value) (w : World) : (Instr.typeAssert (.iface 54 v) 36 24 true).run Try.prog w = .ok (.tuple #[.pointer none, .bool false]) w := by kernel_rfl
theorem as_arr_arr (v : Value) (w : World) : (Instr.typeAssert (.iface 33 v) 36 33 true).run Try.prog w = .ok (.tuple #[v, .bool true]) w := by kernel_rfl
theorem as_arr_ima (v : Value) (w : World) : (Instr.typeAssert (.iface 33 v) 36 24 true).run Try.prog w = .ok (.tuple #[.pointer none, .bool false]) w := by kernel_rfl
theorem as_ima_arr (v : Value) (w : World) : (Instr.typeAssert (.iface 24 v) 36 33 true).run Try.prog w = .ok (.tuple #[.pointer none, .bool false]) w := by kernel_rfl
theorem as_ima_ima (v : Value) (w : World) : (Instr.typeAssert (.iface 24 v) 36 24 true).run Try.prog w = .ok (.tuple #[v, .bool true]) w := by kernel_rfl
theorem as_ima_int (v : Value) (w : World) : (Instr.typeAssert (.iface 24 v) 36 39 true).run Try.prog w = .ok (.tuple #[.pointer none, .bool false]) w := by kernel_rfl
theorem as_ima_str (v : Value) (w : World) : (Instr.typeAssert (.iface 24 v) 36 42 true).run Try.prog w = .ok (.tuple #[.pointer none, .bool false]) w := by kernel_rfl
theorem as_ima_byt (v : Value) (w : World) : (Instr.typeAssert (.iface 24 v) 36 46 true).run Try.prog w = .ok (.tuple #[.pointer none, .bool false]) w := by kernel_rfl
theorem as_ima_map (v : Value) (w : World) : (Instr.typeAssert (.iface 24 v) 36 50 true).run Try.prog w = .ok (.tuple #[.pointer none, .bool false]) w := by kernel_rfl
theorem as_ima_imm (v : Value) (w : World) : (Instr.typeAssert (.iface 24 v) 36 54 true).run Try.prog w = .ok (.tuple #[.pointer none, .bool false]) w := by kernel_rfl
theorem as_int_int (v : Value) (w : World) : (Instr.typeAssert (.iface 39 v) 36 39 true).run Try.prog w = .ok (.tuple #[v, .bool true]) w := by kernel_rfl
theorem as_nil_arr (w : World) : (Instr.typeAssert .nilIface 36 33 true).run Try.prog w = .ok (.tuple #[.pointer none, .bool false]) w := by kernel_rfl
theorem as_nil_ima (w : World) : (Instr.typeAssert .nilIface 36 24 true).run Try.prog w = .ok (.tuple #[.pointer none, .bool false]) w := by kernel_rfl

/-- (*Int).Equals at two Ints. -/
theorem intEq_any (a b : Nat) (m n : Int) (w : World) (ha : w.cell? ⟨a, 0, none⟩ = some (.int .i64 m)) (hb : w.cell? ⟨b, 0, none⟩ = some (.int .i64 n)) :
    Calls Try.prog 11 #[.pointer (some ⟨a, 0, none⟩), .iface 39 (.pointer (some ⟨b, 0, none⟩))] w fun e w' => e = .returned (.bool (m == n)) ∧ ∃ k, w' = w.drewN k := by
  have ta := as_int_int
  go_enter Try.func11, Try.ntmps11
  go_wp2_with fail
  go_quiet (fail)
  go_wp2_with fail
  go_ret
  exact ⟨rfl, _, rfl⟩
/-- (*Int).Copy. -/
theorem intCopy_any (a : Nat) (m : Int) (w : World) (ha : w.cell? ⟨a, 0, none⟩ = some (.int .i64 m)) :
    Calls Try.prog 41 #[.pointer (some ⟨a, 0, none⟩)] w fun e w' => e = .returned (.iface 39 (.pointer (some ⟨w.heap.size, 0, none⟩))) ∧ w.alloc (.cells #[.int .i64 m] 41) = w' := by
  go_enter Try.func41, Try.ntmps41
  go_wp2_with fail
  go_ret
  exact ⟨rfl, rfl⟩
/-- (*ImmutableArray).IsFalsy, (*Array).IsFalsy. -/
theorem falsyI_any (a n c : Nat) (A : Option Addr) (w : World) (ha : w.cell? ⟨a, 0, none⟩ = some (.slice A n c)) :
    Calls Try.prog 7 #[.pointer (some ⟨a, 0, none⟩)] w fun e w' => e = .returned (.bool ((n : Int) == 0)) ∧ w = w' := by
  go_enter Try.func7, Try.ntmps7
  go_wp2_with fail
  go_ret
  exact ⟨rfl, rfl⟩
theorem falsyA_any (a n c : Nat) (A : Option Addr) (w : World) (ha : w.cell? ⟨a, 0, none⟩ = some (.slice A n c)) :
    Calls Try.prog 36 #[.pointer (some ⟨a, 0, none⟩)] w fun e w' => e = .returned (.bool ((n : Int) == 0)) ∧ w = w' := by
  go_enter Try.func36, Try.ntmps36
  go_wp2_with fail
  go_ret
  exact ⟨rfl, rfl⟩
end Go.Proofs.Ytpniflbleihdoaa.Core
