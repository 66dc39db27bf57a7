/-
  Proved: (*ImmutableArray).Copy gives an Array of as many elements.
  Conditions: at most 131072 elements.
-/
import Derived.Test.YtpniflbleihdoaaArrEq
namespace Go.Proofs.Ytpniflbleihdoaa.Core
open Go.ChangeShapes Go.WideShapes Go.ChangeAt Go.RowKit
set_option linter.unusedVariables false

/-- A slice of objects of the call's own, i of them. -/
def OwnO (w wr : World) (v : Value) (i : Nat) : Prop := ∃ xs, wr.ownsRow w.heap.size 36 1 v i xs ∧ Below w.heap.size w wr
theorem OwnO.form {w wr : World} {v : Value} {i : Nat} (h : OwnO w wr v i) : ∃ A c, v = .slice A i c := by
  obtain ⟨xs, ⟨_, h⟩, _⟩ := h
  rcases h with ⟨rfl, rfl⟩ | ⟨g, cap, cur, e, _⟩
  · exact ⟨_, _, rfl⟩
  · exact ⟨_, _, e⟩
theorem cell_one_new2 (w : World) (o : Obj) (v : Value) (t : TypeId) : ∀ (j : Nat) (u : Value), [v][j]? = some u → ((w.alloc o).alloc (.cells #[v] t)).cell? ((⟨w.heap.size + 1, 0, none⟩ : Addr).add j) = some u := by
  have := cell_one_new (w.alloc o) v t
  rwa [show (w.alloc o).heap.size = w.heap.size + 1 by simp] at this
/-- What Copy leaves. -/
def Copied (w : World) (n : Nat) (e : Ending) (w' : World) : Prop := ∃ b A c, e = .returned (.iface 33 (.pointer (some ⟨b, 0, none⟩))) ∧ w'.cell? ⟨b, 0, none⟩ = some (.slice A n c) ∧ Below w.heap.size w w'
set_option maxHeartbeats 1000000 in
theorem copy_any (a G n : Nat) (zs : List Int) (w : World) (ha : w.cell? ⟨a, 0, none⟩ = some (.slice (some ⟨G, 0, none⟩) n n)) (ho : Objs w G n zs) (hn : n ≤ 131072) :
    Calls Try.prog 9 #[.pointer (some ⟨a, 0, none⟩)] w (Copied w n) := by
  obtain ⟨i0, hi0, hz0, hz1, hz2⟩ := info_parts objInfo
  have HO := Lib.hid ho
  clear ho
  have HI := Lib.hid hi0
  have HZ0 := Lib.hid hz0
  have HZ1 := Lib.hid hz1
  have HZ2 := Lib.hid hz2
  clear hi0 hz0 hz1 hz2
  have me := meth_copy
  go_enter Try.func9, Try.ntmps9
  go_wp2_with fail
  go_loopw [3, 11] (fun vc vi wr => ∃ (i : Nat) (v : Value), i ≤ n ∧ vi = .int .i64 i ∧ v = vc ∧ Hid (OwnO w wr v i)) (fun _ vi _ => n - (intOf vi).toNat)
  case atStart => exact ⟨0, _, by omega, rfl, rfl, Lib.hid ⟨[], World.ownsRow_nil _ _ _ _, Below.refl _ _⟩⟩
  case round =>
    obtain ⟨i, v, hi, rfl, rfl, HV⟩ := hrel
    by_cases hlt : i < n
    · have hlt' : (i : Int) < (n : Int) := by omega
      obtain ⟨xs, hown, hbel⟩ := HV.out
      obtain ⟨b, hc0, hd0⟩ := HO.out i hlt
      have hc : wr.cell? ⟨G, i, none⟩ = some (.iface 39 (.pointer (some ⟨b, 0, none⟩))) := (hbel.cell (World.block_lt_of_cell? w _ hc0)).trans hc0
      have hd : wr.cell? ⟨b, 0, none⟩ = some (.int .i64 (zs.getD i 0)) := (hbel.cell (World.block_lt_of_cell? w _ hd0)).trans hd0
      have hsz := hbel.size
      have OW := Lib.hid hown
      have BE := Lib.hid hbel
      clear hown hbel hc0 hd0
      go_wp2_with (first
        | (go_at_call 41; refine (intCopy_any b _ wr hd).mono ?_; rintro e w1 ⟨rfl, rfl⟩)
        | (at_builtin; refine wpList_append_own _ rfl _ _ 25 rfl w.heap.size 36 i0 .nilIface 1 16 Try.underlying25 HI.out HZ0.out HZ1.out HZ2.out rfl (by decide) _ _ _ rfl ((OW.out.alloc _).alloc _) ⟨wr.heap.size + 1, 0, none⟩ 1 1 [.iface 39 (.pointer (some ⟨wr.heap.size, 0, none⟩))] rfl rfl ?c1 ?c2 ?c3 ?c4 ?c5 ?_))
      case c1 => exact cell_one_new2 _ _ _ _
      case c2 => intro u hu; simp at hu; subst hu; rfl
      case c3 => unfold maxLen; omega
      case c4 => omega
      case c5 => simp; omega
      intro v' w1 hown' hgrow _
      have hb1 : Below w.heap.size w w1 := ((BE.out.alloc hsz _).alloc (by simp; omega) _).grown hgrow (by simp; omega) (by
        intro k hk
        rcases OW.out.2 with ⟨rfl, _⟩ | ⟨g, cap, cur, rfl, hb, _⟩
        · simp [Value.ownBlock] at hk
        · simp [Value.ownBlock] at hk; omega)
      have HN := Lib.hid (show OwnO w w1 v' (i + 1) from ⟨_, hown', hb1⟩)
      clear hown' hgrow hb1
      go_wp2_with fail
      go_roundw
      case rel => exact ⟨i + 1, v', by omega, by go_num, rfl, HN⟩
      case measure => simp [intOf]; omega
    · have hlt' : ¬ (i : Int) < (n : Int) := by omega
      have : i = n := by omega
      subst this
      obtain ⟨A, c, hv⟩ := HV.out.form
      obtain ⟨xs, _, hbel⟩ := HV.out
      have BE := Lib.hid hbel
      clear hbel HV
      subst hv
      go_wp2_with fail
      go_ret
      exact ⟨wr.heap.size, A, c, rfl, (Hold.fresh wr _ _).cellAt rfl, BE.out.alloc BE.out.size _⟩
end Go.Proofs.Ytpniflbleihdoaa.Core
