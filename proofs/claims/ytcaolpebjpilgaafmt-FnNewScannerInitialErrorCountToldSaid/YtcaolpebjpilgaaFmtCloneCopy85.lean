/-
  Proved: zzClone (by the builtin copy) makes a row of its own with the same bytes.
  Conditions: at most 1 MiB.
-/
import Derived.Test.YtcaolpebjpilgaaFmtLive
import Derived.IntWalk
import Derived.Lib.LazyBuf
import Derived.Laws.CopyOwn
namespace Go.Proofs.YtcaolpebjpilgaaFmt.P85
open Go.ChangeShapes Go.WideShapes Go.ChangeAt Go.RowKit Core
set_option linter.unusedVariables false

/-- The text's cells, as a list. -/
def cellsL (bs : List UInt8) : List Value := (List.range bs.length).map fun j => .int .u8 (bt bs j)
theorem cellsL_at {bs : List UInt8} {j : Nat} {v : Value} (h : (cellsL bs)[j]? = some v) : j < bs.length ∧ v = .int .u8 (bt bs j) := by
  unfold cellsL at h
  rw [List.getElem?_map] at h
  by_cases hj : j < bs.length
  · rw [List.getElem?_range hj] at h
    simp at h
    exact ⟨hj, h.symm⟩
  · rw [List.getElem?_eq_none (by simp; omega)] at h
    cases h
theorem cellsL_get {bs : List UInt8} {j : Nat} (h : j < bs.length) : (cellsL bs)[j]? = some (.int .u8 (bt bs j)) := by
  unfold cellsL
  rw [List.getElem?_map, List.getElem?_range h]
  rfl
theorem cellsL_len (bs : List UInt8) : (cellsL bs).length = bs.length := by simp [cellsL]

set_option maxHeartbeats 1000000 in
theorem clone_some (b o cap : Nat) (sp : Option Nat) (bs : List UInt8) (w : World) (hs : Src w (some ⟨b, o, sp⟩) cap bs) (hn : bs.length ≤ 1048576) :
    Calls Tryf.prog 9 #[.slice (some ⟨b, o, sp⟩) bs.length cap] w (Cloned w bs) := by
  have hmk := run_make_row' (P := Tryf.prog) 22 5 (.int .u8 0) 1 Tryf.underlying22 byteInfo rfl .i64 .i64 bs.length (by omega) (by omega)
  have HS := Lib.hid hs
  clear hs
  have heq : ∀ v : World, (binOp .eql 22 (.slice (some ⟨b, o, sp⟩) bs.length cap) (.slice none 0 0)).run Tryf.prog v = .ok (.bool false) v := fun v => run_eql_slice_nil v _ _ _ _ _ Tryf.underlying22
  go_enter Tryf.func9, Tryf.ntmps9
  go_wp2_with (with_reducible refine wpList_copy_splice rfl (.tmp 9) (.tmp 10) 22 22 rfl 5 Tryf.underlying22 (by kernel_rfl) (some ⟨w.heap.size, 0, none⟩) (some ⟨b, o, sp⟩) bs.length bs.length bs.length cap rfl rfl w.heap.size 0 (madeCells #[.int .u8 0] bs.length).toList 5 ?hh (cellsL bs) ?hl ?hp ?hf ?ho w.heap.size w ?hb (Nat.le_refl _) ?go)
  case hh => have := Hold.fresh w 5 (madeCells #[.int .u8 0] bs.length); simpa [Hold] using this
  case hl => rw [cellsL_len]; exact (Nat.min_self _).symm
  case hp =>
    intro hp
    rw [cellsL_len] at hp
    refine fun j v hv => ?_
    obtain ⟨hj, rfl⟩ := cellsL_at hv
    obtain ⟨b', o', e, hc⟩ := HS.out.2.2 hp
    injection e with e
    injection e with e1 e2 e3
    subst e1 e2 e3
    have h2 := ((Only.refl w []).fresh (.cells (madeCells #[.int .u8 0] bs.length) 5)).cell (hc j hj) (by simp)
    rw [Addr.add_lit]
    exact h2
  case hf => rw [cellsL_len]; simp [madeCells]
  case ho =>
    intro v hv
    obtain ⟨j, hj, rfl⟩ := List.getElem_of_mem hv
    obtain ⟨_, e⟩ := cellsL_at (List.getElem?_eq_getElem hj)
    rw [e]
    rfl
  case hb => exact (Below.refl _ _).alloc (Nat.le_refl _) _
  case go =>
    intro w1 hh hb
    clear hmk
    go_wp2_with fail
    go_ret
    have e : splice (madeCells #[.int .u8 0] bs.length).toList 0 (cellsL bs) = cellsL bs := by
      unfold splice
      simp [cellsL_len, madeCells]
    rw [e] at hh
    refine ⟨_, _, rfl, ⟨Nat.le_refl _, by unfold maxLen; omega, fun _ => ⟨_, _, rfl, fun j hj => ?_⟩⟩, Only.ofBelow hb [], ?_, (fun h => by cases h)⟩
    · rw [Nat.zero_add, Hold.cell hh.out]
      simpa using cellsL_get hj
    · intro a ha
      injection ha with ha
      subst ha
      exact Nat.le_refl _
theorem clone_any (A : Option Addr) (cap : Nat) (bs : List UInt8) (w : World) (hs : Src w A cap bs) (hN : A = none → bs.length = 0 ∧ cap = 0) (hn : bs.length ≤ 1048576) :
    Calls Tryf.prog 9 #[.slice A bs.length cap] w (Cloned w bs) := by
  cases A with
  | some a => obtain ⟨b, o, sp⟩ := a; exact clone_some b o cap sp bs w hs hn
  | none =>
    obtain ⟨h1, rfl⟩ := hN rfl
    have : bs = [] := List.length_eq_zero_iff.1 h1
    subst this
    show Calls Tryf.prog 9 #[.slice none 0 0] w (Cloned w [])
    have heq : ∀ v : World, (binOp .eql 22 (.slice none 0 0) (.slice none 0 0)).run Tryf.prog v = .ok (.bool true) v := fun v => run_eql_slice_nil v _ _ _ _ _ Tryf.underlying22
    go_enter Tryf.func9, Tryf.ntmps9
    go_wp2_with fail
    go_ret
    exact Cloned.nil w
end Go.Proofs.YtcaolpebjpilgaaFmt.P85
