/-
  Proved: zzCloneStrings and zzCloneInts make rows of their own with the same elements; zzIdent makes an identifier.
  Conditions: a row that is not nil, at most 4096 elements.
-/
import Derived.Test.YtpniflbleihdoaaDoorBOp
import Derived.Lib.LazyBuf
import Derived.Deep.OwnRows
namespace Go.Proofs.YtpniflbleihdoaaDoor.Bin
open Go.ChangeShapes Go.WideShapes Go.ChangeAt Go.RowKit Core
set_option linter.unusedVariables false

/-- n cells from ⟨b, o⟩ on. -/
def Run (w : World) (b o n : Nat) (f : Nat → Value) : Prop := ∀ j, j < n → w.cell? ⟨b, o + j, none⟩ = some (f j)
theorem Run.keep {w w' : World} {b o n : Nat} {f : Nat → Value} {gs : List Nat} (h : Run w b o n f) (ho : Only w w' gs) (hb : b ∉ gs) : Run w' b o n f := fun j hj => ho.cell (h j hj) hb
/-- A row that is being filled; its block is the first new one. -/
def Part (w wr : World) (t : TypeId) (n : Nat) (f : Nat → Value) (i : Nat) : Prop :=
  ∃ cs : Array Value, Hold wr w.heap.size t cs ∧ cs.size = n ∧ (∀ j, j < i → cs[j]? = some (f j)) ∧ Only w wr []
theorem Part.start (w : World) (t : TypeId) (n : Nat) (f : Nat → Value) (z : Value) : Part w (w.alloc (.cells (madeCells #[z] n) t)) t n f 0 :=
  ⟨_, Hold.fresh w _ _, by simp [madeCells], fun j hj => absurd hj (by omega), (Only.refl w []).fresh _⟩
theorem Part.step {w wr : World} {t : TypeId} {n : Nat} {f : Nat → Value} {i : Nat} (h : Part w wr t n f i) (hi : i < n) : Part w (wr.setCell ⟨w.heap.size, i, none⟩ (f i)) t n f (i + 1) := by
  obtain ⟨cs, h1, h2, h3, h4⟩ := h
  refine ⟨_, h1.put i _, by simp [h2], fun j hj => ?_, h4.put (.inr (Nat.le_refl _)) _⟩
  by_cases e : j = i
  · subst e
    rw [Array.getElem?_setIfInBounds_self, if_pos (by omega)]
  · rw [Array.getElem?_setIfInBounds_ne (by omega)]
    exact h3 j (by omega)
theorem Part.only {w wr : World} {t : TypeId} {n : Nat} {f : Nat → Value} {i : Nat} (h : Part w wr t n f i) : Only w wr [] := by obtain ⟨_, _, _, _, h4⟩ := h; exact h4
theorem Part.cell {w wr : World} {t : TypeId} {n : Nat} {f : Nat → Value} {i : Nat} (h : Part w wr t n f i) (hi : i < n) : ∃ v, wr.cell? ⟨w.heap.size, i, none⟩ = some v := by
  obtain ⟨cs, h1, h2, _⟩ := h
  rw [h1.cell]
  exact ⟨_, Array.getElem?_eq_getElem (by omega)⟩
theorem Part.free {w wr : World} {t : TypeId} {n : Nat} {f : Nat → Value} {i : Nat} (h : Part w wr t n f i) (j : Nat) : wr.frozen? ⟨w.heap.size, j, none⟩ = false := by
  obtain ⟨cs, h1, _⟩ := h
  exact h1.free j
theorem Part.done {w wr : World} {t : TypeId} {n : Nat} {f : Nat → Value} (h : Part w wr t n f n) : Run wr w.heap.size 0 n f := by
  obtain ⟨cs, h1, h2, h3, h4⟩ := h
  intro j hj
  rw [Nat.zero_add, h1.cell]
  exact h3 j hj
def Cloned (w : World) (n : Nat) (f : Nat → Value) (e : Ending) (w' : World) : Prop := ∃ G, e = .returned (.slice (some ⟨G, 0, none⟩) n n) ∧ Run w' G 0 n f ∧ Only w w' []
theorem strInfo : (Tryd.prog.info? 9).map (fun i => (i.zero, i.size, i.bytes)) = some (some (.string ByteArray.empty), 1, 16) := by kernel_rfl
theorem intInfo : (Tryd.prog.info? 3).map (fun i => (i.zero, i.size, i.bytes)) = some (some (.int .i64 0), 1, 8) := by kernel_rfl

set_option maxHeartbeats 1000000 in
theorem cloneS (b o n cap : Nat) (ss : Nat → ByteArray) (w : World) (hs : Run w b o n fun j => .string (ss j)) (hn : n ≤ 4096) :
    Calls Tryd.prog 15 #[.slice (some ⟨b, o, none⟩) n cap] w (Cloned w n fun j => .string (ss j)) := by
  have hmk := run_make_row' (P := Tryd.prog) 33 9 (.string ByteArray.empty) 16 Tryd.underlying33 strInfo rfl .i64 .i64 n (by omega) (by omega)
  have HS := Lib.hid hs
  clear hs
  have heq : ∀ v : World, (binOp .eql 33 (.slice (some ⟨b, o, none⟩) n cap) (.slice none 0 0)).run Tryd.prog v = .ok (.bool false) v := fun v => run_eql_slice_nil v _ _ _ _ _ Tryd.underlying33
  go_enter Tryd.func15, Tryd.ntmps15
  go_wp2_with fail
  clear hmk
  go_loopw [4] (fun vi wr => ∃ i : Nat, i ≤ n ∧ vi = .int .i64 i ∧ Hid (Part w wr 9 n (fun j => .string (ss j)) i)) (fun vi _ => n - (intOf vi).toNat)
  case atStart => exact ⟨0, by omega, rfl, Lib.hid (Part.start w _ n _ _)⟩
  case round =>
    obtain ⟨i, hi, rfl, HH⟩ := hrel
    by_cases hlt : i < n
    · have hlt' : (i : Int) < (n : Int) := by omega
      have hci := (HS.out.keep HH.out.only (by simp)) i hlt
      have hfr := HH.out.free i
      obtain ⟨v, hv⟩ := HH.out.cell hlt
      go_wp2_with fail
      go_roundw
      case rel => exact ⟨i + 1, by omega, by go_num, Lib.hid (HH.out.step hlt)⟩
      case measure => simp [intOf]; omega
    · have hlt' : ¬ (i : Int) < (n : Int) := by omega
      have : i = n := by omega
      subst this
      go_wp2_with fail
      go_ret
      exact ⟨_, rfl, HH.out.done, HH.out.only⟩
set_option maxHeartbeats 1000000 in
theorem cloneI (b o n cap : Nat) (zs : Nat → Int) (w : World) (hs : Run w b o n fun j => .int .i64 (zs j)) (hn : n ≤ 4096) :
    Calls Tryd.prog 16 #[.slice (some ⟨b, o, none⟩) n cap] w (Cloned w n fun j => .int .i64 (zs j)) := by
  have hmk := run_make_row' (P := Tryd.prog) 34 3 (.int .i64 0) 8 Tryd.underlying34 intInfo rfl .i64 .i64 n (by omega) (by omega)
  have HS := Lib.hid hs
  clear hs
  have heq : ∀ v : World, (binOp .eql 34 (.slice (some ⟨b, o, none⟩) n cap) (.slice none 0 0)).run Tryd.prog v = .ok (.bool false) v := fun v => run_eql_slice_nil v _ _ _ _ _ Tryd.underlying34
  go_enter Tryd.func16, Tryd.ntmps16
  go_wp2_with fail
  clear hmk
  go_loopw [4] (fun vi wr => ∃ i : Nat, i ≤ n ∧ vi = .int .i64 i ∧ Hid (Part w wr 3 n (fun j => .int .i64 (zs j)) i)) (fun vi _ => n - (intOf vi).toNat)
  case atStart => exact ⟨0, by omega, rfl, Lib.hid (Part.start w _ n _ _)⟩
  case round =>
    obtain ⟨i, hi, rfl, HH⟩ := hrel
    by_cases hlt : i < n
    · have hlt' : (i : Int) < (n : Int) := by omega
      have hci := (HS.out.keep HH.out.only (by simp)) i hlt
      have hfr := HH.out.free i
      obtain ⟨v, hv⟩ := HH.out.cell hlt
      go_wp2_with fail
      go_roundw
      case rel => exact ⟨i + 1, by omega, by go_num, Lib.hid (HH.out.step hlt)⟩
      case measure => simp [intOf]; omega
    · have hlt' : ¬ (i : Int) < (n : Int) := by omega
      have : i = n := by omega
      subst this
      go_wp2_with fail
      go_ret
      exact ⟨_, rfl, HH.out.done, HH.out.only⟩
/-- zzIdent without positions. -/
theorem ident_any (b n cap j : Nat) (ss : Nat → ByteArray) (w : World) (hs : Run w b 0 n fun j => .string (ss j)) (hj : j < n) (hn : n ≤ 4096) :
    Calls Tryd.prog 41 #[.slice (some ⟨b, 0, none⟩) n cap, .slice none 0 0, .int .i64 j] w fun e w' => e = .returned (.pointer (some ⟨w.heap.size, 0, none⟩)) ∧ w.alloc (.cells #[.string (ss j), .int .i64 0] 59) = w' := by
  have hc := hs j hj
  rw [Nat.zero_add] at hc
  have hj' : (j : Int) < (n : Int) := by omega
  have d : decide ((j : Int) < 0) = false := decide_eq_false (by omega)
  clear hs
  go_enter Tryd.func41, Tryd.ntmps41
  go_wp2_with fail
  go_ret
  exact ⟨rfl, rfl⟩
theorem ident_at (b n cap : Nat) (J : Int) (j : Nat) (ss : Nat → ByteArray) (w : World) (hJ : J = (j : Int)) (hs : Run w b 0 n fun j => .string (ss j)) (hj : j < n) (hn : n ≤ 4096) :
    Calls Tryd.prog 41 #[.slice (some ⟨b, 0, none⟩) n cap, .slice none 0 0, .int .i64 J] w fun e w' => e = .returned (.pointer (some ⟨w.heap.size, 0, none⟩)) ∧ w.alloc (.cells #[.string (ss j), .int .i64 0] 59) = w' := by
  subst hJ
  exact ident_any b n cap j ss w hs hj hn
end Go.Proofs.YtpniflbleihdoaaDoor.Bin
