/-
  Proved: the constants that zzCountConsts makes, as they lie in memory, and that each counts what its making says.
  Conditions: none.
-/
import Derived.Test.YtpniflbleihdoaaGreatItoa
import Derived.Maps.Own
import Derived.Maps.AppendAt
namespace Go.Proofs.YtpniflbleihdoaaGreat.Core
open Go.ChangeShapes Go.WideShapes Go.ChangeAt Go.RowKit
set_option linter.unusedVariables false

def Slot (w : World) (B : Nat) (A : Option Addr) (m : Nat) (u : Nat → Value) : Prop := 0 < m → ∃ g, A = some ⟨g, 0, none⟩ ∧ B ≤ g ∧ ∀ j, j < m → w.cell? ⟨g, j, none⟩ = some (u j)
def ArrM (w : World) (B g m : Nat) : Prop := B ≤ g ∧ m ≤ 65536 ∧ ∃ A cap u, w.cell? ⟨g, 0, none⟩ = some (.slice A m cap) ∧ Slot w B A m u ∧ ∀ j, j < m → IsLeaf (u j)
def MapM (w : World) (B g k : Nat) : Prop := B ≤ g ∧ k ≤ 65536 ∧ ∃ bm, B ≤ bm ∧ w.cell? ⟨g, 0, none⟩ = some (.map (some bm)) ∧ Leaves w bm k
def p0 (g : Nat) : Value := .pointer (some ⟨g, 0, none⟩)
/-- A constant that counts c; all its blocks are from B on. -/
def Cst (w : World) (B : Nat) (v : Value) (c : Nat) : Prop :=
  (IsLeaf v ∧ c = 1) ∨ (∃ g m, v = .iface 36 (p0 g) ∧ ArrM w B g m ∧ c = 1 + m) ∨ (∃ g m, v = .iface 54 (p0 g) ∧ ArrM w B g m ∧ c = 1 + m) ∨
  (∃ g k, v = .iface 57 (p0 g) ∧ MapM w B g k ∧ c = 1 + k) ∨ (∃ g k, v = .iface 67 (p0 g) ∧ MapM w B g k ∧ c = 1 + k) ∨
  (∃ g g2 m, v = .iface 41 (p0 g) ∧ B ≤ g ∧ w.cell? ⟨g, 0, none⟩ = some (.iface 36 (p0 g2)) ∧ ArrM w B g2 m ∧ c = 2 + m)
section
variable {w w' : World} {B : Nat} {gs : List Nat}
theorem Slot.keep {A : Option Addr} {m : Nat} {u : Nat → Value} (h : Slot w B A m u) (ho : Only w w' gs) (hg : ∀ x ∈ gs, x < B) : Slot w' B A m u := by
  intro hp
  obtain ⟨g, rfl, hb, hc⟩ := h hp
  exact ⟨g, rfl, hb, fun j hj => ho.cell (hc j hj) (fun hm => by have h1 : g < B := hg _ hm; omega)⟩
theorem ArrM.keep {g m : Nat} (h : ArrM w B g m) (ho : Only w w' gs) (hg : ∀ x ∈ gs, x < B) : ArrM w' B g m := by
  obtain ⟨h1, h2, A, cap, u, h3, h4, h5⟩ := h
  exact ⟨h1, h2, A, cap, u, ho.cell h3 (fun hm => by have h1 : g < B := hg _ hm; omega), h4.keep ho hg, h5⟩
theorem MapM.keep {g k : Nat} (h : MapM w B g k) (ho : Only w w' gs) (hg : ∀ x ∈ gs, x < B) : MapM w' B g k := by
  obtain ⟨h1, h2, bm, h3, h4, es, clock, h5, r⟩ := h
  refine ⟨h1, h2, bm, h3, ho.cell h4 (fun hm => by have h1 : g < B := hg _ hm; omega), es, clock, ?_, r⟩
  exact (ho.block bm (Array.getElem?_eq_some_iff.1 h5).1 (fun hm => by have := hg _ hm; omega)).trans h5
theorem Cst.keep {v : Value} {c : Nat} (h : Cst w B v c) (ho : Only w w' gs) (hg : ∀ x ∈ gs, x < B) : Cst w' B v c := by
  rcases h with h | ⟨g, m, h1, h2, h3⟩ | ⟨g, m, h1, h2, h3⟩ | ⟨g, m, h1, h2, h3⟩ | ⟨g, m, h1, h2, h3⟩ | ⟨g, g2, m, h1, h2, h3, h4, h5⟩
  · exact .inl h
  · exact .inr (.inl ⟨g, m, h1, h2.keep ho hg, h3⟩)
  · exact .inr (.inr (.inl ⟨g, m, h1, h2.keep ho hg, h3⟩))
  · exact .inr (.inr (.inr (.inl ⟨g, m, h1, h2.keep ho hg, h3⟩)))
  · exact .inr (.inr (.inr (.inr (.inl ⟨g, m, h1, h2.keep ho hg, h3⟩))))
  · exact .inr (.inr (.inr (.inr (.inr ⟨g, g2, m, h1, h2, ho.cell h3 (fun hm => by have h1 : g < B := hg _ hm; omega), h4.keep ho hg, h5⟩))))
theorem Cst.small {v : Value} {c : Nat} (h : Cst w B v c) : c ≤ 65538 := by
  rcases h with ⟨_, h⟩ | ⟨g, m, _, ⟨_, h2, _⟩, h3⟩ | ⟨g, m, _, ⟨_, h2, _⟩, h3⟩ | ⟨g, m, _, ⟨_, h2, _⟩, h3⟩ | ⟨g, m, _, ⟨_, h2, _⟩, h3⟩ | ⟨g, g2, m, _, _, _, ⟨_, h2, _⟩, h3⟩ <;> omega
end
theorem ArrM.row {w : World} {B g m : Nat} (h : ArrM w B g m) : ∃ A cap u, w.cell? ⟨g, 0, none⟩ = some (.slice A m cap) ∧ Row w A m u ∧ (∀ j, j < m → Counts w (u j) 1) ∧ m ≤ 65536 := by
  obtain ⟨_, h2, A, cap, u, h3, h4, h5⟩ := h
  refine ⟨A, cap, u, h3, fun hp => ?_, fun j hj => (h5 j hj).counts w, h2⟩
  obtain ⟨g', rfl, _, hc⟩ := h4 hp
  exact ⟨g', rfl, hc⟩
theorem ArrM.counts {w : World} {B g m : Nat} (h : ArrM w B g m) : Counts w (.iface 36 (p0 g)) (1 + m) := by
  intro w' hb
  obtain ⟨A, cap, u, h1, h2, h3, h4⟩ := (h.keep (Only.ofBelow hb []) (by simp)).row
  have := count_arr g m cap A u (fun _ => 1) w' h1 h2 h3 (by omega) (by rw [tot_one]; omega)
  rwa [tot_one] at this
theorem ArrM.countsI {w : World} {B g m : Nat} (h : ArrM w B g m) : Counts w (.iface 54 (p0 g)) (1 + m) := by
  intro w' hb
  obtain ⟨A, cap, u, h1, h2, h3, h4⟩ := (h.keep (Only.ofBelow hb []) (by simp)).row
  have := count_ima g m cap A u (fun _ => 1) w' h1 h2 h3 (by omega) (by rw [tot_one]; omega)
  rwa [tot_one] at this
theorem Cst.counts {w : World} {B : Nat} {v : Value} {c : Nat} (h : Cst w B v c) : Counts w v c := by
  rcases h with ⟨h, rfl⟩ | ⟨g, m, rfl, h2, rfl⟩ | ⟨g, m, rfl, h2, rfl⟩ | ⟨g, m, rfl, h2, rfl⟩ | ⟨g, m, rfl, h2, rfl⟩ | ⟨g, g2, m, rfl, h2, h3, h4, rfl⟩
  · exact h.counts w
  · exact h2.counts
  · exact h2.countsI
  · intro w' hb
    obtain ⟨_, hk, bm, _, h3, h4⟩ := h2.keep (Only.ofBelow hb []) (by simp)
    exact count_map g bm m w' h3 h4 (by omega)
  · intro w' hb
    obtain ⟨_, hk, bm, _, h3, h4⟩ := h2.keep (Only.ofBelow hb []) (by simp)
    exact count_imm g bm m w' h3 h4 (by omega)
  · intro w' hb
    have hm := h4.2.1
    have := count_err g (1 + m) (.iface 36 (p0 g2)) w' ((Only.ofBelow hb []).cell h3 (by simp)) ((h4.keep (Only.ofBelow hb []) (by simp)).counts) (by omega)
    rwa [show 1 + (1 + m) = 2 + m by omega] at this

/-! ### The list while it is being made. -/
def outV (w : World) (i n : Nat) : Value := .slice (some ⟨w.heap.size, 0, none⟩) i n
def Out (w wr : World) (n i : Nat) : Prop :=
  ∃ (xs : List Value) (c : Nat → Nat), wr.ownsRow w.heap.size 43 1 (.slice (some ⟨w.heap.size, 0, none⟩) i n) i xs ∧ (∀ j, j < i → Cst wr (w.heap.size + 1) (xs.getD j .nilIface) (c j)) ∧ Only w wr [] ∧ w.heap.size < wr.heap.size
theorem objInfo : (Tryz.prog.info? 43).map (fun i => (i.zero, i.size, i.bytes)) = some (some .nilIface, 1, 16) := by kernel_rfl
theorem cell_new_at (X : World) (v : Value) (t : TypeId) (g : Nat) (hg : g = X.heap.size) : ∀ (j : Nat) (u : Value), [v][j]? = some u → (X.alloc (.cells #[v] t)).cell? ((⟨g, 0, none⟩ : Addr).add j) = some u := by
  subst hg
  exact cell_one_new X v t
theorem owned_lt {X : World} {b e n c : Nat} {v : Nat} {xs : List Value} (h : X.ownsRow b e 1 (.slice (some ⟨v, 0, none⟩) n c) n xs) : v < X.heap.size := by
  rcases h.2 with ⟨e, _⟩ | ⟨g, cap, cur, e, _, hh, _⟩
  · cases e
  · injection e with e1
    injection e1 with e1
    injection e1 with e1
    subst e1
    exact (Array.getElem?_eq_some_iff.1 hh).1
theorem Out.start {w X : World} {n : Nat} (hown : X.ownsRow w.heap.size 43 1 (.slice (some ⟨w.heap.size, 0, none⟩) 0 n) 0 []) (hg : w.grownBy X none) : Out w X n 0 :=
  ⟨[], fun _ => 0, hown, fun j hj => absurd hj (Nat.not_lt_zero j), Only.ofGrown hg (fun k hk => by cases hk), owned_lt hown⟩
/-- One more. -/
theorem Out.step {w wr y w1 : World} {n i k : Nat} {xs : List Value} {c : Nat → Nat} {v : Value} (hx : ∀ j, j < i → Cst wr (w.heap.size + 1) (xs.getD j .nilIface) (c j)) (hl : xs.length = i) (hlt : w.heap.size < wr.heap.size) (how : Only w wr []) (hy : Only wr y []) (hv : Cst y (w.heap.size + 1) v k)
    (hown : w1.ownsRow w.heap.size 43 1 (.slice (some ⟨w.heap.size, 0, none⟩) (i + 1) n) (i + 1) (xs ++ [v])) (hg : (y.alloc (.cells #[v] 43)).grownBy w1 (some w.heap.size)) : Out w w1 n (i + 1) := by
  have o1 := Only.ofGrown (gs := [w.heap.size]) hg (by intro k hk; cases hk; simp)
  have oy : Only y w1 [w.heap.size] := (((Only.refl y []).fresh _).more (by simp)).next o1 (by simp)
  refine ⟨_, fun j => if j = i then k else c j, hown, fun j hj => ?_, ((how.next hy (by simp)).fresh _).next o1 (by simp), ?_⟩
  · by_cases e : j = i
    · subst e
      show Cst w1 _ _ (if j = j then k else c j)
      rw [if_pos rfl]
      have : (xs ++ [v]).getD j .nilIface = v := by rw [← hl]; simp
      rw [this]
      exact hv.keep oy (by simp)
    · show Cst w1 _ _ (if j = i then k else c j)
      rw [if_neg e]
      have : (xs ++ [v]).getD j .nilIface = xs.getD j .nilIface := by rw [List.getD_eq_getElem?_getD, List.getElem?_append_left (by omega), ← List.getD_eq_getElem?_getD]
      rw [this]
      exact ((hx j (by omega)).keep hy (by simp)).keep oy (by simp)
  · have h1 := hg.size
    have h2 := hy.size
    simp at h1
    omega
/-- A row of leaves of the round's own: block Ga, the first new one behind wr. -/
def Lrow (wr y : World) (m j : Nat) : Prop := ∃ xs : List Value, y.ownsRow wr.heap.size 43 1 (.slice (some ⟨wr.heap.size, 0, none⟩) j m) j xs ∧ (∀ x ∈ xs, IsLeaf x) ∧ Only wr y []
theorem Lrow.start {w X : World} {n : Nat} (hown : X.ownsRow w.heap.size 43 1 (.slice (some ⟨w.heap.size, 0, none⟩) 0 n) 0 []) (hg : w.grownBy X none) : Lrow w X n 0 :=
  ⟨[], hown, (fun x hx => by cases hx), Only.ofGrown hg (fun k hk => by cases hk)⟩
theorem Lrow.step {wr y y1 y2 : World} {m j : Nat} {xs : List Value} {v : Value} (hx : ∀ x ∈ xs, IsLeaf x) (hv : IsLeaf v) (ho : Only wr y []) (hy : Only y y1 []) (hown : y2.ownsRow wr.heap.size 43 1 (.slice (some ⟨wr.heap.size, 0, none⟩) (j + 1) m) (j + 1) (xs ++ [v]))
    (hg : (y1.alloc (.cells #[v] 43)).grownBy y2 (some wr.heap.size)) : Lrow wr y2 m (j + 1) := by
  have o1 := Only.ofGrown (gs := [wr.heap.size]) hg (by intro k hk; cases hk; simp)
  refine ⟨_, hown, fun x h => ?_, ((ho.next hy (by simp)).fresh _).next o1 (by simp)⟩
  rcases List.mem_append.1 h with h | h
  · exact hx x h
  · simp at h; subst h; exact hv
theorem Lrow.arr {wr y : World} {m B : Nat} (h : Lrow wr y m m) (hm : m ≤ 65536) (hB : B ≤ wr.heap.size) (t : TypeId) : ArrM (y.alloc (.cells #[.slice (some ⟨wr.heap.size, 0, none⟩) m m] t)) B y.heap.size m := by
  obtain ⟨xs, hown, hx, ho⟩ := h
  have hl : xs.length = m := by simpa using hown.1
  refine ⟨by have := ho.size; omega, hm, _, _, fun j => xs.getD j .nilIface, (Hold.fresh y _ _).cellAt rfl, fun hp => ⟨wr.heap.size, rfl, hB, fun j hj => ?_⟩, fun j hj => ?_⟩
  · have hc := hown.cells (g := wr.heap.size) rfl j (xs.getD j .nilIface) (by rw [List.getD_eq_getElem?_getD, List.getElem?_eq_getElem (by omega), Option.getD_some])
    rw [Addr.add_lit, Nat.zero_add] at hc
    exact ((Only.refl y []).fresh _).cell hc (by simp)
  · show IsLeaf (xs.getD j .nilIface)
    rw [List.getD_eq_getElem?_getD, List.getElem?_eq_getElem (by omega), Option.getD_some]
    exact hx _ (List.getElem_mem _)
/-! ### Maps of leaves. -/
def leafR (v : Value) : Option (DataW Unit × List MemPlace) := match v with
  | .iface t _ => if t = 46 ∨ t = 63 then some (.lit (.bool true), []) else none
  | _ => none
theorem leafR_int (x : Value) : leafR (.iface 46 x) = some (.lit (.bool true), []) := by simp [leafR]
theorem leafR_flt (x : Value) : leafR (.iface 63 x) = some (.lit (.bool true), []) := by simp [leafR]
theorem leafR_leaf {v : Value} {z : DataW Unit × List MemPlace} (h : leafR v = some z) : IsLeaf v := by
  unfold leafR at h
  split at h
  · rename_i t x
    split at h
    · rename_i ht
      rcases ht with rfl | rfl
      · exact ⟨x, .inl rfl⟩
      · exact ⟨x, .inr (.inr (.inr rfl))⟩
    · cases h
  · cases h
def Lmap (wr y : World) (j : Nat) : Prop := ∃ D : DataW Unit, y.ownsMap Tryz.prog 9 leafR wr.heap.size j D ∧ Only wr y []
theorem Lmap.map {wr y : World} {m B : Nat} (h : Lmap wr y m) (hm : m ≤ 65536) (hB : B ≤ wr.heap.size) (t : TypeId) : ∃ k, MapM (y.alloc (.cells #[.map (some wr.heap.size)] t)) B y.heap.size k := by
  obtain ⟨D, ⟨es, clock, hb, F, hs, _⟩, ho⟩ := h
  have hlt : wr.heap.size < y.heap.size := (Array.getElem?_eq_some_iff.1 hb).1
  refine ⟨es.size, by omega, by omega, wr.heap.size, hB, (Hold.fresh y _ _).cellAt rfl, es, clock, (Below.heap_alloc y _ _ hlt).trans hb, rfl, fun x hx => ?_, F.stamped.1, F.stamped.2.1⟩
  obtain ⟨z, hz⟩ := F.reads x hx
  obtain ⟨q, hq, _⟩ := WideElems.rd_val hz
  exact leafR_leaf hq
end Go.Proofs.YtpniflbleihdoaaGreat.Core
