/-
  Proved: (*SourceFile).AddLine and (*Scanner).error (no handler), as contracts on the file's and the scanner's blocks.
  Conditions: the file's size is at most 2000000; fewer than 2^62 errors so far.
-/
import Derived.Test.YtpdfompeoceklaaFmtProg
import Derived.Test.YtpdfompeoceklaaFmtBase
import Derived.WalkKit
import Derived.ProofKit
import Derived.Handy
import Derived.Maps.AppendAt
import Derived.Lib.Hide
namespace Go.Proofs.YtpdfompeoceklaaFmt.Core
open Go.RowKit
set_option linter.unusedVariables false

/-- A source file of n bytes behind block F; its line table lies in block L. -/
def Fil (w : World) (F L n : Nat) : Prop :=
  ∃ (fs : Nat) (nm : ByteArray) (bse : Int) (k c : Nat) (xs : List Int),
    Hold w F 59 #[.pointer (some ⟨fs, 0, none⟩), .string nm, .int .i64 bse, .int .i64 n, .slice (some ⟨L, 0, none⟩) k c] ∧
    w.ownsRow 0 3 1 (.slice (some ⟨L, 0, none⟩) k c) k (xs.map (Value.int .i64)) ∧ xs.length = k ∧ 1 ≤ k ∧ ∀ i, i < k → (i : Int) ≤ xs.getD i 0 ∧ xs.getD i 0 ≤ n

theorem Fil.lt {w : World} {F L n : Nat} (h : Fil w F L n) : F < w.heap.size ∧ L < w.heap.size ∧ F ≠ L := by
  obtain ⟨fs, nm, bse, k, c, xs, hF, hO, hl, hk, hx⟩ := h
  rcases hO.2 with ⟨e, _⟩ | ⟨g, cap, cur, e, _, hh, _⟩
  · cases e
  · injection e with e1 e2 e3
    injection e1 with e1
    injection e1 with e1
    subst e1
    exact ⟨hF.lt, (Array.getElem?_eq_some_iff.1 hh).1, Hold.apart hF hh (by decide)⟩

theorem Fil.keep {w w' : World} {F L n : Nat} {gs : List Nat} (h : Fil w F L n) (ho : Only w w' gs) (hF : F ∉ gs) (hL : L ∉ gs) : Fil w' F L n := by
  obtain ⟨fs, nm, bse, k, c, xs, h1, h2, r⟩ := h
  exact ⟨fs, nm, bse, k, c, xs, ho.hold h1 hF, ho.owns h2 (fun k hk => by simp [Value.ownBlock] at hk; subst hk; exact hL), r⟩

theorem add_plain (g j : Nat) : (⟨g, 0, none⟩ : Addr).add j = ⟨g, j, none⟩ := by
  unfold Addr.add
  by_cases h : j = 0 <;> simp [h]
theorem int_info : (Tryf.prog.info? 3).map (fun i => (i.zero, i.size, i.bytes)) = some (some (.int .i64 0), 1, 8) := by kernel_rfl

/-- What AddLine leaves. -/
def Added (w : World) (F L n : Nat) (e : Ending) (w' : World) : Prop :=
  e = .returned (.tuple #[]) ∧ ∃ L', Fil w' F L' n ∧ (L' = L ∨ w.heap.size ≤ L') ∧ Only w w' [F, L]

theorem added_of {w w1 : World} {F L n fs k c : Nat} {nm : ByteArray} {bse : Int} {xs : List Int} {o : Nat} {v : Value}
    (hF : Hold w F 59 #[.pointer (some ⟨fs, 0, none⟩), .string nm, .int .i64 bse, .int .i64 n, .slice (some ⟨L, 0, none⟩) k c])
    (hLF : F ≠ L) (hl : xs.length = k) (hk : 1 ≤ k) (hx : ∀ i, i < k → (i : Int) ≤ xs.getD i 0 ∧ xs.getD i 0 ≤ n) (h1 : xs.getD (k - 1) 0 < (o : Int)) (h2 : o < n) (ob : Obj)
    (hown : w1.ownsRow 0 3 1 v (k + 1) (xs.map (Value.int .i64) ++ [.int .i64 o])) (hg : (w.alloc ob).grownBy w1 (some L))
    (hat : v.ownBlock = some L ∨ v.ownBlock = some (w.heap.size + 1)) :
    Added w F L n (.returned (.tuple #[])) (w1.setCell ⟨F, 4, none⟩ v) := by
  have o1 : Only w w1 [F, L] := (Only.refl w [F, L]).fresh ob |>.next (Only.ofGrown (gs := [F, L]) hg (by intro k hk; cases hk; simp)) (by simp)
  obtain ⟨e1, e2⟩ := hown
  rcases e2 with ⟨_, e⟩ | ⟨g, cap, cur, rfl, hb, hh, r⟩
  · omega
  have hF1 : Hold w1 F _ _ := hF.later ob |>.same (hg.block F (hF.later ob).lt (by simpa using hLF))
  have hgF : F ≠ g := Hold.apart hF1 hh (by decide)
  refine ⟨rfl, g, ⟨fs, nm, bse, k + 1, cap, xs ++ [(o : Int)], ?_, ⟨by simp [hl], .inr ⟨g, cap, cur, rfl, hb, ?_, ?_⟩⟩, by simp [hl], by omega, ?_⟩, ?_, ?_⟩
  · exact hF1.put 4 _
  · exact (Below.heap_setCell w1 ⟨F, 4, none⟩ _ g (Ne.symm hgF)).trans hh
  · simpa using r
  · intro i hi
    by_cases h : i < k
    · have := hx i h
      rw [List.getD_eq_getElem?_getD, List.getElem?_append_left (by omega), ← List.getD_eq_getElem?_getD]
      exact this
    · have hik : i = k := by omega
      subst hik
      have h0 := hx (i - 1) (by omega)
      rw [List.getD_eq_getElem?_getD, List.getElem?_append_right (by omega)]
      simp [hl]
      omega
  · rcases hat with h | h
    · simp [Value.ownBlock] at h
      exact .inl h
    · simp [Value.ownBlock] at h
      exact .inr (by omega)
  · exact o1.put (.inl (by simp)) _

set_option maxHeartbeats 1000000 in
/-- (*SourceFile).AddLine. -/
theorem addLine_any (F L n o : Nat) (w : World) (h : Fil w F L n) (hn : n ≤ 2000000) (ho : o ≤ n) :
    Calls Tryf.prog 44 #[.pointer (some ⟨F, 0, none⟩), .int .i64 o] w (Added w F L n) := by
  have hlt := h.lt
  have HB : Hid (Fil w F L n) := h
  obtain ⟨fs, nm, bse, k, c, xs, hF, hO, hl, hk, hx⟩ := h
  have f3 : w.cell? ⟨F, 3, none⟩ = some (.int .i64 n) := hF.cellAt rfl
  have f4 : w.cell? ⟨F, 4, none⟩ = some (.slice (some ⟨L, 0, none⟩) k c) := hF.cellAt rfl
  have z4 : w.frozen? ⟨F, 4, none⟩ = false := hF.free 4
  have hkn : k ≤ 2000001 := by
    have := hx (k - 1) (by omega)
    omega
  have hcl : w.cell? ⟨L, k - 1, none⟩ = some (.int .i64 (xs.getD (k - 1) 0)) := by
    have := hO.cells (g := L) rfl (k - 1) (.int .i64 (xs.getD (k - 1) 0)) (by
      rw [List.getElem?_map, List.getD_eq_getElem?_getD, List.getElem?_eq_getElem (by omega)]
      rfl)
    rw [add_plain] at this
    exact this
  have hxb := hx (k - 1) (by omega)
  have hk0 : ((k : Int) == 0) = false := by simp; omega
  have hk1 : ((k : Int) - 1).toNat = k - 1 := by omega
  obtain ⟨i0, hi, hz0, hz1, hz2⟩ := info_parts int_info
  have HF := Lib.hid hF
  have HO := Lib.hid hO
  have HX := Lib.hid hx
  have HL := Lib.hid hl
  have HI := Lib.hid hi
  have HZ0 := Lib.hid hz0
  have HZ1 := Lib.hid hz1
  have HZ2 := Lib.hid hz2
  clear hF hO hx hl hi hz0 hz1 hz2
  generalize hla : xs.getD (k - 1) 0 = last at *
  have HLA := Lib.hid hla
  clear hla
  by_cases h1 : last < (o : Int)
  · by_cases h2 : o < n
    · go_enter Tryf.func44, Tryf.ntmps44
      go_wp2_with (at_builtin; refine wpList_append_own_at _ rfl _ _ 57 rfl 0 3 i0 (.int .i64 0) 1 8 Tryf.underlying57 HI.out HZ0.out HZ1.out HZ2.out rfl (by decide) _ _ _ rfl (HO.out.alloc _) ⟨w.heap.size, 0, none⟩ 1 1 [.int .i64 o] rfl rfl ?c1 ?c2 ?c3 ?c4 ?c5 ?_)
      case c1 => exact cell_one_new _ _ _
      case c2 => intro u hu; simp at hu; subst hu; rfl
      case c3 => unfold maxLen; omega
      case c4 => omega
      case c5 => exact Nat.zero_le _
      intro v' w1 hown' hgrow _ hat
      have HOW := Lib.hid hown'
      have HG := Lib.hid hgrow
      have HA := Lib.hid hat
      have c4' : w1.cell? ⟨F, 4, none⟩ = some (.slice (some ⟨L, 0, none⟩) k c) := by
        have := (HF.out.later (.cells #[Value.int .i64 o] 3)).same (HG.out.block F (HF.out.later _).lt (by simpa [Value.ownBlock] using hlt.2.2))
        exact this.cellAt rfl
      have z4' : w1.frozen? ⟨F, 4, none⟩ = false := by
        have := (HF.out.later (.cells #[Value.int .i64 o] 3)).same (HG.out.block F (HF.out.later _).lt (by simpa [Value.ownBlock] using hlt.2.2))
        exact this.free 4
      have hex : ∃ g cap, v' = .slice (some ⟨g, 0, none⟩) (k + 1) cap := by
        rcases hown'.2 with ⟨_, e⟩ | ⟨g, cap, cur, e, _⟩
        · omega
        · exact ⟨g, cap, e⟩
      obtain ⟨g, cap, hv⟩ := hex
      rw [hv] at HOW HA ⊢
      clear hown' hgrow hat hv
      go_wp2
      go_end0
      exact added_of HF.out hlt.2.2 HL.out hk HX.out (by rw [HLA.out]; exact h1) h2 _ HOW.out (by simpa [Value.ownBlock] using HG.out) (by simpa [Value.ownBlock] using HA.out)
    · have d : decide ((o : Int) < (n : Int)) = false := decide_eq_false (by omega)
      go_enter Tryf.func44, Tryf.ntmps44
      go_wp2_with fail
      go_end0
      exact ⟨rfl, L, HB.out, .inl rfl, Only.refl _ _⟩
  · have d : decide (last < (o : Int)) = false := decide_eq_false h1
    go_enter Tryf.func44, Tryf.ntmps44
    go_wp2_with fail
    go_end0
    exact ⟨rfl, L, HB.out, .inl rfl, Only.refl _ _⟩
end Go.Proofs.YtpdfompeoceklaaFmt.Core
