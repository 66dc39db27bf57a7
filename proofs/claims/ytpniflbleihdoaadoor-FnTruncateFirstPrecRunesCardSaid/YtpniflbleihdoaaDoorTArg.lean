/-
  Proved: a slice of bytes that came in, as a list of bytes.
  Conditions: none.
-/
import Derived.Test.YtpniflbleihdoaaDoorProg
import Derived.Test.YtpniflbleihdoaaDoorTPlain
import Derived.WalkKit
import Derived.ProofKit
import Derived.Handy
import Derived.Lib.Hide
import Derived.Deep.OwnRows
namespace Go.Proofs.YtpniflbleihdoaaDoor.Core
open Go.ChangeShapes Go.WideShapes Go.ChangeAt Go.RowKit
set_option linter.unusedVariables false

/-- The slice's cells hold the bytes bs. -/
def Src (w : World) (A : Option Addr) (cap : Nat) (bs : List UInt8) : Prop :=
  bs.length ≤ cap ∧ cap ≤ maxLen ∧ (0 < bs.length → ∃ b o, A = some ⟨b, o, none⟩ ∧ ∀ j, j < bs.length → w.cell? ⟨b, o + j, none⟩ = some (.int .u8 (bt bs j)))
theorem Src.keep {w w' : World} {A : Option Addr} {cap : Nat} {bs : List UInt8} {gs : List Nat} (h : Src w A cap bs) (ho : Only w w' gs) (hA : 0 < bs.length → ∀ a, A = some a → a.block ∉ gs) : Src w' A cap bs := by
  refine ⟨h.1, h.2.1, fun hp => ?_⟩
  obtain ⟨b, o, rfl, hc⟩ := h.2.2 hp
  exact ⟨b, o, rfl, fun j hj => ho.cell (hc j hj) (hA hp ⟨b, o, none⟩ rfl)⟩
theorem Src.later {w w' : World} {A : Option Addr} {cap : Nat} {bs : List UInt8} (h : Src w A cap bs) (hb : Below w.heap.size w w') : Src w' A cap bs := h.keep (Only.ofBelow hb []) (by simp)

/-- A slice of integers that came in: nil, or a row of cells (the spare ones too). -/
def IsRow (k : IntKind) (w : World) (a : Option Addr) (len cap : Nat) (zs : List Int) : Prop :=
  (a = none ∧ len = 0 ∧ cap = 0 ∧ zs = []) ∨ ∃ x, a = some x ∧ len ≤ cap ∧ cap ≤ maxLen ∧ zs.length = cap ∧ (∀ i, i < zs.length → w.cell? (x.add i) = some (.int k (zs.getD i 0))) ∧ ∀ n ∈ zs, (Lit.int k n).wf = true
def bytesOf (len : Nat) (zs : List Int) : List UInt8 := (zs.take len).map fun n => UInt8.ofNat n.toNat

theorem IsRow.len_le {k : IntKind} {w : World} {a : Option Addr} {len cap : Nat} {zs : List Int} (h : IsRow k w a len cap zs) : len ≤ maxLen := by
  rcases h with ⟨_, rfl, _⟩ | ⟨x, _, h1, h2, _⟩
  · exact Nat.zero_le _
  · omega
theorem IsRow.bytes_len {k : IntKind} {w : World} {a : Option Addr} {len cap : Nat} {zs : List Int} (h : IsRow k w a len cap zs) : (bytesOf len zs).length = len := by
  unfold bytesOf
  rcases h with ⟨_, rfl, _, rfl⟩ | ⟨x, _, h1, h2, h3, _⟩
  · rfl
  · rw [List.length_map, List.length_take]; omega
theorem IsRow.src {w : World} {a : Option Addr} {len cap : Nat} {zs : List Int} (h : IsRow .u8 w a len cap zs) : Src w a cap (bytesOf len zs) := by
  have hb := h.bytes_len
  rcases h with ⟨rfl, rfl, rfl, rfl⟩ | ⟨x, rfl, h1, h2, h3, h4, h5⟩
  · exact ⟨Nat.le_refl _, Nat.zero_le _, fun h => absurd h (by simp [bytesOf])⟩
  · refine ⟨by omega, h2, fun hp => ?_⟩
    rw [hb] at hp
    obtain ⟨b, o, sp⟩ := x
    have hs : sp = none := by
      have := h4 0 (by omega)
      unfold World.cell? Addr.add at this
      cases sp with
      | none => rfl
      | some y => simp at this; split at this <;> simp at this
    subst hs
    refine ⟨b, o, rfl, fun j hj => ?_⟩
    rw [hb] at hj
    have hc := h4 j (by omega)
    have hw := h5 (zs.getD j 0) (by rw [List.getD_eq_getElem?_getD, List.getElem?_eq_getElem (by omega)]; exact List.getElem_mem _)
    have hr : 0 ≤ zs.getD j 0 ∧ zs.getD j 0 ≤ 255 := by simpa [Lit.wf, IntKind.min, IntKind.max, IntKind.signed, IntKind.bits] using hw
    have e : ((bt (bytesOf len zs) j : Nat) : Int) = zs.getD j 0 := by
      have e1 : (zs.take len)[j]? = some (zs.getD j 0) := by
        rw [List.getElem?_take, if_pos hj, List.getD_eq_getElem?_getD, List.getElem?_eq_getElem (by omega), Option.getD_some]
      have e2 : (bytesOf len zs)[j]? = some (UInt8.ofNat (zs.getD j 0).toNat) := by unfold bytesOf; rw [List.getElem?_map, e1]; rfl
      unfold bt
      rw [List.getD_eq_getElem?_getD, e2, Option.getD_some]
      generalize zs.getD j 0 = q at hr ⊢
      simp
      omega
    rw [e, ← hc, Addr.add_lit]
theorem IsRow.none {w : World} {len cap : Nat} {zs : List Int} (h : IsRow .u8 w none len cap zs) : len = 0 ∧ cap = 0 := by
  rcases h with ⟨_, rfl, rfl, _⟩ | ⟨x, h, _⟩
  · exact ⟨rfl, rfl⟩
  · cases h

/-- What a clone leaves: a row of its own with the same bytes. -/
def Cloned (w : World) (bs : List UInt8) (e : Ending) (w' : World) : Prop :=
  ∃ A cap, e = .returned (.slice A bs.length cap) ∧ Src w' A cap bs ∧ Only w w' [] ∧ (∀ a, A = some a → w.heap.size ≤ a.block) ∧ (A = none → bs.length = 0 ∧ cap = 0)
theorem Cloned.nil (w : World) : Cloned w [] (.returned (.slice none 0 0)) w :=
  ⟨none, 0, rfl, ⟨Nat.le_refl _, Nat.zero_le _, fun h => absurd h (by simp)⟩, Only.refl w [], (fun a h => by cases h), fun _ => ⟨rfl, rfl⟩⟩

/-- The row while it is being written: i cells done. -/
def Half (w wr : World) (bs : List UInt8) (i : Nat) : Prop :=
  ∃ cs : Array Value, Hold wr w.heap.size 5 cs ∧ cs.size = bs.length ∧ (∀ j, j < i → cs[j]? = some (.int .u8 (bt bs j))) ∧ Only w wr []
theorem Half.start (w : World) (bs : List UInt8) (z : Value) : Half w (w.alloc (.cells (madeCells #[z] bs.length) 5)) bs 0 :=
  ⟨_, Hold.fresh w _ _, by simp [madeCells], fun j hj => absurd hj (by omega), (Only.refl w []).fresh _⟩
theorem Half.step {w wr : World} {bs : List UInt8} {i : Nat} (h : Half w wr bs i) (hi : i < bs.length) : Half w (wr.setCell ⟨w.heap.size, i, none⟩ (.int .u8 (bt bs i))) bs (i + 1) := by
  obtain ⟨cs, h1, h2, h3, h4⟩ := h
  refine ⟨_, h1.put i _, by simp [h2], fun j hj => ?_, h4.put (.inr (Nat.le_refl _)) _⟩
  by_cases e : j = i
  · subst e
    rw [Array.getElem?_setIfInBounds_self, if_pos (by omega)]
  · rw [Array.getElem?_setIfInBounds_ne (by omega)]
    exact h3 j (by omega)
theorem Half.done {w wr : World} {bs : List UInt8} (h : Half w wr bs bs.length) (hn : bs.length ≤ 2000000) : Cloned w bs (.returned (.slice (some ⟨w.heap.size, 0, none⟩) bs.length bs.length)) wr := by
  obtain ⟨cs, h1, h2, h3, h4⟩ := h
  refine ⟨_, _, rfl, ⟨Nat.le_refl _, by unfold maxLen; omega, fun _ => ⟨_, _, rfl, fun j hj => ?_⟩⟩, h4, ?_, (fun h => by cases h)⟩
  · rw [Nat.zero_add, h1.cell]
    exact h3 j hj
  · intro a ha
    injection ha with ha
    subst ha
    exact Nat.le_refl _
theorem Half.old {w wr : World} {bs : List UInt8} {i : Nat} (h : Half w wr bs i) {A : Option Addr} {cap : Nat} (hs : Src w A cap bs) : Src wr A cap bs := by
  obtain ⟨_, _, _, _, h4⟩ := h
  exact hs.keep h4 (by simp)
theorem Half.cell {w wr : World} {bs : List UInt8} {i : Nat} (h : Half w wr bs i) (hi : i < bs.length) : ∃ v, wr.cell? ⟨w.heap.size, i, none⟩ = some v := by
  obtain ⟨cs, h1, h2, _⟩ := h
  rw [h1.cell]
  exact ⟨_, Array.getElem?_eq_getElem (by omega)⟩
theorem Half.free {w wr : World} {bs : List UInt8} {i : Nat} (h : Half w wr bs i) (j : Nat) : wr.frozen? ⟨w.heap.size, j, none⟩ = false := by
  obtain ⟨cs, h1, _⟩ := h
  exact h1.free j
theorem byteInfo : (Tryd.prog.info? 5).map (fun i => (i.zero, i.size, i.bytes)) = some (some (.int .u8 0), 1, 1) := by kernel_rfl
end Go.Proofs.YtpniflbleihdoaaDoor.Core
