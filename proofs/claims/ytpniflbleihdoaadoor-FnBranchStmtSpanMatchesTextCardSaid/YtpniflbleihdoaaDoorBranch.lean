/-
  Proved: the walks of FnBranchEndTable and FnBranchStmtSpanMatchesText: they return true at every argument.
  Conditions: token.tokens starts as the program's text lays it.
-/
import Derived.Test.YtpniflbleihdoaaDoorTok
import Derived.Test.YtpniflbleihdoaaDoorTie
import Derived.Test.YtpniflbleihdoaaDoorCards
import Derived.Deep.QuietTactic
import Derived.BigQuiet
import Derived.Lay
import Derived.SevenTiedAt
import Derived.IntWalk
namespace Go.Proofs.YtpniflbleihdoaaDoor.Branch
open Go.ChangeShapes Go.WideShapes Go.ChangeAt Go.RowKit Go.Shelf Go.Lib Tok
set_option linter.unusedVariables false

theorem below_drew (w : World) (k : Nat) : Below w.heap.size w (w.drewN k) := ⟨rfl, rfl, rfl, Nat.le_refl _, fun _ _ => rfl⟩

/-- (*Ident).End. -/
theorem identEnd_any (b : Nat) (nm : ByteArray) (p : Int) (w : World) (h0 : w.cell? ⟨b, 0, none⟩ = some (.string nm)) (h1 : w.cell? ⟨b, 1, none⟩ = some (.int .i64 p)) :
    Calls Tryd.prog 44 #[.pointer (some ⟨b, 0, none⟩)] w fun e w' => e = .returned (.int .i64 (wrap64 (p + nm.size))) ∧ ∃ k, w' = w.drewN k := by
  go_enter Tryd.func44, Tryd.ntmps44
  go_wp2_with fail
  go_quiet (fail)
  go_wp2_with fail
  go_ret
  exact ⟨rfl, _, rfl⟩

/-- (*BranchStmt).End with a label. -/
theorem end_label (s b : Nat) (nm : ByteArray) (p : Int) (w : World) (h : w.cell? ⟨s, 2, none⟩ = some (.pointer (some ⟨b, 0, none⟩))) (h0 : w.cell? ⟨b, 0, none⟩ = some (.string nm)) (h1 : w.cell? ⟨b, 1, none⟩ = some (.int .i64 p)) :
    Calls Tryd.prog 27 #[.pointer (some ⟨s, 0, none⟩)] w fun e w' => e = .returned (.int .i64 (wrap64 (p + nm.size))) ∧ ∃ k, w' = w.drewN k := by
  have c := Lib.hid (identEnd_any b nm p w h0 h1)
  go_enter Tryd.func27, Tryd.ntmps27
  go_wp2_with fail
  refine c.out.mono ?_
  rintro e w1 ⟨rfl, hw⟩
  go_wp2_with fail
  go_ret
  exact ⟨rfl, hw⟩

/-- (*BranchStmt).End without one: at a token whose text is z. -/
theorem end_bare (s : Nat) (t p : Int) (z : ByteArray) (w : World) (h0 : w.cell? ⟨s, 0, none⟩ = some (.int .i64 t)) (h1 : w.cell? ⟨s, 1, none⟩ = some (.int .i64 p)) (h2 : w.cell? ⟨s, 2, none⟩ = some (.pointer none))
    (hz : ∀ n, Calls Tryd.prog 42 #[.int .i64 t] (w.drewN n) fun e w' => e = .returned (.string z) ∧ w' = w.drewN n) :
    Calls Tryd.prog 27 #[.pointer (some ⟨s, 0, none⟩)] w fun e w' => e = .returned (.int .i64 (wrap64 (p + z.size))) ∧ ∃ k, w' = w.drewN k := by
  have c := Lib.hid hz
  clear hz
  go_enter Tryd.func27, Tryd.ntmps27
  go_wp2_with fail
  go_quiet ((go_at_call 42; exact Calls.quiet_of_same (c.out _)))
  go_wp2_with fail
  go_ret
  exact ⟨rfl, _, rfl⟩

/-- (*BranchStmt).String with a label. -/
theorem string_label (s b : Nat) (nm : ByteArray) (t : Int) (z : ByteArray) (w : World) (h0 : w.cell? ⟨s, 0, none⟩ = some (.int .i64 t)) (h : w.cell? ⟨s, 2, none⟩ = some (.pointer (some ⟨b, 0, none⟩))) (hb : w.cell? ⟨b, 0, none⟩ = some (.string nm))
    (hz : Calls Tryd.prog 42 #[.int .i64 t] w fun e w' => e = .returned (.string z) ∧ w' = w) (hn : nm.size ≤ 1048576) (hl : z.size ≤ 1000) :
    Calls Tryd.prog 28 #[.pointer (some ⟨s, 0, none⟩)] w fun e w' => e = .returned (.string (z ++ (⟨#[32]⟩ ++ nm))) ∧ w' = w := by
  have c := Lib.hid hz
  clear hz
  have hs : (({ data := #[32] } : ByteArray) ++ nm).size = 1 + nm.size := by simp [ByteArray.size_append]; rfl
  go_enter Tryd.func28, Tryd.ntmps28
  go_wp2_with fail
  refine c.out.mono ?_
  rintro e w1 ⟨rfl, rfl⟩
  go_wp2_with fail
  go_ret
  exact ⟨rfl, rfl⟩
/-- (*BranchStmt).String without one. -/
theorem string_bare (s : Nat) (t : Int) (z : ByteArray) (w : World) (h0 : w.cell? ⟨s, 0, none⟩ = some (.int .i64 t)) (h : w.cell? ⟨s, 2, none⟩ = some (.pointer none))
    (hz : Calls Tryd.prog 42 #[.int .i64 t] w fun e w' => e = .returned (.string z) ∧ w' = w) (hl : z.size ≤ 1000) :
    Calls Tryd.prog 28 #[.pointer (some ⟨s, 0, none⟩)] w fun e w' => e = .returned (.string (z ++ ⟨#[]⟩)) ∧ w' = w := by
  have c := Lib.hid hz
  clear hz
  go_enter Tryd.func28, Tryd.ntmps28
  go_wp2_with fail
  refine c.out.mono ?_
  rintro e w1 ⟨rfl, rfl⟩
  go_wp2_with fail
  go_ret
  exact ⟨rfl, rfl⟩
theorem Names.drew {w : World} (h : Names w) (n : Nat) : Names (w.drewN n) := fun i hi => h i hi

theorem below1 (w : World) (o : Obj) (k : Nat) : Below w.heap.size w ((w.alloc o).drewN k) :=
  ((Below.refl _ _).alloc (Nat.le_refl _) o).trans ((below_drew (w.alloc o) k).mono (by simp))
theorem below2 (w : World) (o o2 : Obj) (k : Nat) : Below w.heap.size w (((w.alloc o).alloc o2).drewN k) :=
  ((((Below.refl _ _).alloc (Nat.le_refl _) o).alloc (by simp) o2)).trans ((below_drew _ k).mono (by simp; omega))
theorem below1' (w : World) (o : Obj) : Below w.heap.size w (w.alloc o) := (Below.refl _ _).alloc (Nat.le_refl _) o
theorem below2' (w : World) (o o2 : Obj) : Below w.heap.size w ((w.alloc o).alloc o2) := ((Below.refl _ _).alloc (Nat.le_refl _) o).alloc (by simp) o2

set_option maxHeartbeats 1000000 in
/-- FnBranchEndTable. -/
theorem walkEnd0 (p : Int) (ic hl : Bool) (nm : ByteArray) (lp : Int) (w : World) (hN : Names w) (hn : nm.size ≤ 9223372036854775807) :
    Calls Tryd.prog 8 #[.int .i64 p, .bool ic, .bool hl, .string nm, .int .i64 lp] w fun e w' => e = .returned (.bool true) ∧ Below w.heap.size w w' := by
  have HN := Lib.hid hN
  clear hN
  by_cases h : nm.size ≤ 1048576
  · cases hl with
    | true =>
      cases ic with
      | true =>
        go_enter Tryd.func8, Tryd.ntmps8
        go_wp2_with (first | (go_at_call 30; go_in))
        refine (end_label w.heap.size (w.heap.size + 1) nm lp _ (by go_simp) (by go_simp) (by go_simp)).mono ?_
        rintro e w1 ⟨rfl, k, rfl⟩
        go_wp2_with fail
        go_ret
        exact ⟨by simp, by first | exact below1 _ _ _ | exact below2 _ _ _ _⟩
      | false =>
        go_enter Tryd.func8, Tryd.ntmps8
        go_wp2_with (first | (go_at_call 30; go_in))
        refine (end_label w.heap.size (w.heap.size + 1) nm lp _ (by go_simp) (by go_simp) (by go_simp)).mono ?_
        rintro e w1 ⟨rfl, k, rfl⟩
        go_wp2_with fail
        go_ret
        exact ⟨by simp, by first | exact below1 _ _ _ | exact below2 _ _ _ _⟩
    | false =>
      cases ic with
      | true =>
        go_enter Tryd.func8, Tryd.ntmps8
        go_wp2_with (first | (go_at_call 30; go_in))
        refine (end_bare w.heap.size 61 p _ _ (by go_simp) (by go_simp) (by go_simp) (fun n => str_continue _ (HN.out.below (below1 _ _ _)))).mono ?_
        rintro e w1 ⟨rfl, k, rfl⟩
        go_wp2_with fail
        go_ret
        exact ⟨by simp, by first | exact below1 _ _ _ | exact below2 _ _ _ _⟩
      | false =>
        go_enter Tryd.func8, Tryd.ntmps8
        go_wp2_with (first | (go_at_call 30; go_in))
        refine (end_bare w.heap.size 60 p _ _ (by go_simp) (by go_simp) (by go_simp) (fun n => str_break _ (HN.out.below (below1 _ _ _)))).mono ?_
        rintro e w1 ⟨rfl, k, rfl⟩
        go_wp2_with fail
        go_ret
        exact ⟨by simp, by first | exact below1 _ _ _ | exact below2 _ _ _ _⟩
  · go_enter Tryd.func8, Tryd.ntmps8
    go_wp2_with (first | (go_at_call 30; go_in))
    go_ret
    exact ⟨rfl, Below.refl _ _⟩

theorem tabs_of {w : World} (hL : laidMet Tryd.prog Rows.fnBranchEndTableRow.laid w) : Names w :=
  names_of (Lib.laidMet.reads hL (.tail _ (.tail _ (.tail _ (.head _)))))
theorem walkEnd (p : Int) (ic hl : Bool) (nm : ByteArray) (lp : Int) (wp : (Lit.int .i64 p).wf = true) (wn : nm.size ≤ maxLen) (wl : (Lit.int .i64 lp).wf = true) (w : World) (hL : laidMet Tryd.prog Rows.fnBranchEndTableRow.laid w) :
    Calls Tryd.prog 8 #[.int .i64 p, .bool ic, .bool hl, .string nm, .int .i64 lp] w fun e w' => e = .returned (.bool true) ∧ Below w.heap.size w w' :=
  walkEnd0 p ic hl nm lp w (tabs_of hL) (by unfold maxLen at wn; omega)
end Go.Proofs.YtpniflbleihdoaaDoor.Branch
