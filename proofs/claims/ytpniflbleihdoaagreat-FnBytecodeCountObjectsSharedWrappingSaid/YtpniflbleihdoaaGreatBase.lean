/-
  Proved: small laws on worlds: a block that is known whole, and worlds that differ in a few named blocks and in new ones alone.
  Conditions: none. No program in this text.
-/
import Derived.Below
import Derived.Laws.OwnMore
import Derived.Laws.Rows
import Derived.Deep.Draws
namespace Go.Proofs.YtpniflbleihdoaaGreat.Core
open Go.RowKit

/-- Block g holds just the cells cs, of type t; none is frozen. -/
def Hold (w : World) (g : Nat) (t : TypeId) (cs : Array Value) : Prop := w.heap[g]? = some (.cells cs t (0, 0))

section
variable {w w' : World} {g : Nat} {t : TypeId} {cs : Array Value}
theorem Hold.lt (h : Hold w g t cs) : g < w.heap.size := by
  unfold Hold at h
  exact (Array.getElem?_eq_some_iff.1 h).1
theorem Hold.cell (h : Hold w g t cs) (i : Nat) : w.cell? ⟨g, i, none⟩ = cs[i]? := by
  unfold Hold at h
  simp [World.cell?, h]
theorem Hold.cellAt (h : Hold w g t cs) {i : Nat} {v : Value} (hi : cs[i]? = some v) : w.cell? ⟨g, i, none⟩ = some v := by rw [h.cell, hi]
theorem Hold.free (h : Hold w g t cs) (i : Nat) : w.frozen? ⟨g, i, none⟩ = false := by
  unfold Hold at h
  simp [World.frozen?, h]
theorem Hold.draws (h : Hold w g t cs) (n : Nat) : Hold (w.drewN n) g t cs := h
theorem Hold.draw (h : Hold w g t cs) : Hold w.drew g t cs := h
theorem Hold.fresh (w : World) (t : TypeId) (cs : Array Value) : Hold (w.alloc (.cells cs t)) w.heap.size t cs := by
  show (w.heap.push _)[w.heap.size]? = _
  rw [Array.getElem?_push_size]
theorem Hold.later (h : Hold w g t cs) (o : Obj) : Hold (w.alloc o) g t cs := (Below.heap_alloc w o g h.lt).trans h
theorem Hold.put (h : Hold w g t cs) (i : Nat) (u : Value) : Hold (w.setCell ⟨g, i, none⟩ u) g t (cs.setIfInBounds i u) := by
  unfold Hold at h ⊢
  simp [World.setCell, Array.getElem?_modify, h]
theorem Hold.away (h : Hold w g t cs) {p : Addr} (hp : g ≠ p.block) (u : Value) : Hold (w.setCell p u) g t cs := (Below.heap_setCell w p u g hp).trans h
theorem Hold.same (h : Hold w g t cs) (e : w'.heap[g]? = w.heap[g]?) : Hold w' g t cs := e.trans h
theorem Hold.apart {g' : Nat} {t' : TypeId} {cs' : Array Value} (h : Hold w g t cs) (h' : Hold w g' t' cs') (hne : t ≠ t') : g ≠ g' := by
  rintro rfl
  unfold Hold at h h'
  rw [h] at h'
  injection h' with h'
  injection h' with _ e
  exact hne e
end

/-- w' is w but for the blocks gs, and for new blocks. -/
structure Only (w w' : World) (gs : List Nat) : Prop where
  os : w'.os = w.os
  tape : w'.tape = w.tape
  output : w'.output = w.output
  size : w.heap.size ≤ w'.heap.size
  block : ∀ k, k < w.heap.size → k ∉ gs → w'.heap[k]? = w.heap[k]?

section
variable {w w1 w' : World} {gs hs : List Nat}
theorem Only.refl (w : World) (gs : List Nat) : Only w w gs := ⟨rfl, rfl, rfl, Nat.le_refl _, fun _ _ _ => rfl⟩
theorem Only.draws (h : Only w w' gs) (n : Nat) : Only w (w'.drewN n) gs := ⟨h.os, h.tape, h.output, h.size, h.block⟩
theorem Only.draw (h : Only w w' gs) : Only w w'.drew gs := ⟨h.os, h.tape, h.output, h.size, h.block⟩
theorem Only.fresh (h : Only w w' gs) (o : Obj) : Only w (w'.alloc o) gs :=
  ⟨h.os, h.tape, h.output, Nat.le_trans h.size (by simp), fun k hk hn => (Below.heap_alloc w' o k (Nat.lt_of_lt_of_le hk h.size)).trans (h.block k hk hn)⟩
theorem Only.put (h : Only w w' gs) {p : Addr} (hp : p.block ∈ gs ∨ w.heap.size ≤ p.block) (u : Value) : Only w (w'.setCell p u) gs :=
  ⟨h.os, h.tape, h.output, by simpa [World.setCell] using h.size, fun k hk hn => (Below.heap_setCell w' p u k (by
    rintro rfl
    rcases hp with hp | hp
    · exact hn hp
    · omega)).trans (h.block k hk hn)⟩
/-- One step behind another; what the second may turn is in gs, or is new. -/
theorem Only.next (h : Only w w1 gs) (k : Only w1 w' hs) (hsub : ∀ x ∈ hs, x ∈ gs ∨ w.heap.size ≤ x) : Only w w' gs :=
  ⟨k.os.trans h.os, k.tape.trans h.tape, k.output.trans h.output, Nat.le_trans h.size k.size, fun i hi hn => by
    refine (k.block i (Nat.lt_of_lt_of_le hi h.size) (fun hm => ?_)).trans (h.block i hi hn)
    rcases hsub i hm with h1 | h1
    · exact hn h1
    · omega⟩
theorem Only.more (h : Only w w' gs) (hsub : ∀ x ∈ gs, x ∈ hs) : Only w w' hs :=
  ⟨h.os, h.tape, h.output, h.size, fun i hi hn => h.block i hi (fun hm => hn (hsub i hm))⟩
theorem Only.ofBelow (h : Below w.heap.size w w') (gs : List Nat) : Only w w' gs := ⟨h.os, h.tape, h.output, h.size, fun i hi _ => h.block i hi⟩
theorem Only.ofGrown {row : Option Nat} (h : w.grownBy w' row) (hr : ∀ k, row = some k → k ∈ gs) : Only w w' gs :=
  ⟨h.os, h.tape, h.output, h.size, fun i hi hn => h.block i hi (fun e => hn (hr i e.symm))⟩
theorem Only.below (h : Only w w' gs) {B : Nat} (hB : B ≤ w.heap.size) (hg : ∀ x ∈ gs, B ≤ x) : Below B w w' :=
  ⟨h.os, h.tape, h.output, h.size, fun i hi => h.block i (by omega) (fun hm => by have := hg i hm; omega)⟩
theorem Only.hold (h : Only w w' gs) {g : Nat} {t : TypeId} {cs : Array Value} (hh : Hold w g t cs) (hn : g ∉ gs) : Hold w' g t cs := hh.same (h.block g hh.lt hn)
theorem Only.cell (h : Only w w' gs) {p : Addr} {v : Value} (hc : w.cell? p = some v) (hn : p.block ∉ gs) : w'.cell? p = some v :=
  (World.cell?_of_block (h.block p.block (World.block_lt_of_cell? w p hc) hn)).trans hc
theorem Only.owns (h : Only w w' gs) {base : Nat} {e : TypeId} {size n : Nat} {v : Value} {xs : List Value} (ho : w.ownsRow base e size v n xs) (hn : ∀ k, v.ownBlock = some k → k ∉ gs) : w'.ownsRow base e size v n xs := by
  obtain ⟨h1, h2⟩ := ho
  refine ⟨h1, ?_⟩
  rcases h2 with h2 | ⟨g, cap, cur, rfl, hb, hh, r⟩
  · exact .inl h2
  · refine .inr ⟨g, cap, cur, rfl, hb, ?_, r⟩
    exact (h.block g ((Array.getElem?_eq_some_iff.1 hh).1) (hn g rfl)).trans hh
end
end Go.Proofs.YtpniflbleihdoaaGreat.Core
