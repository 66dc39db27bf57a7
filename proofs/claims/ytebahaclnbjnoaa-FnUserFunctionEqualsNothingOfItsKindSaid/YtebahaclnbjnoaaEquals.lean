/-
  Proved: for every string name, the law FnUserFunctionEqualsNothingOfItsKind returns true (a user function equals neither itself, its copy, another of its name, nor nil), and the argument reads as before.
  Conditions: none beyond the given row.
-/
import Derived.Test.YtebahaclnbjnoaaRows
import Derived.WalkKit
import Derived.ProofKit
import Derived.OpenShut
import Derived.ShutString
import Derived.RegionTactic
import Derived.ChangeAlike
import Derived.Handy
namespace Go.Proofs.Ytebahaclnbjnoaa.fnUserFunctionEqualsNothingOfItsKind
open Go.ChangeShapes Go.WideShapes Go.ChangeAt Go.RowKit
open Go.ChangeMaps (open_string shut_string)
set_option linter.unusedVariables false      -- a walk need not use every 'w<i>' (that an integer argument fits its kind)

theorem own : ownKnob Try.prog.godebug = none := by kernel_rfl

/-- (*UserFunction).Equals answers false, whatever it is asked. -/
theorem equals_any (v x : Value) (w : World) : Calls Try.prog 8 #[v, x] w fun e w' => e = .returned (.bool false) ∧ w = w' := by
  go_enter Try.func8, Try.ntmps8
  go_wp2
  go_ret
  exact ⟨rfl, rfl⟩
/-- (*UserFunction).Copy: some value; at most new blocks. -/
def Some_ (w : World) (e : Ending) (w' : World) : Prop := ∃ v, e = .returned v ∧ Below w.heap.size w w'
theorem copy_any (b : Nat) (nm : ByteArray) (w : World) (h0 : w.cell? ⟨b, 0, none⟩ = some (.string nm)) (h1 : w.cell? ⟨b, 1, none⟩ = some .nilFunc) :
    Calls Try.prog 9 #[.pointer (some ⟨b, 0, none⟩)] w (Some_ w) := by
  go_enter Try.func9, Try.ntmps9
  go_wp2
  go_region
  all_goals (go_wp2; go_ret; exact ⟨_, rfl, by go_grown⟩)

/-! ### STEP 1: THE WALK: the Go text returns true. 'Grown w w'': the world has at most new blocks (Derived/RowKit3.lean). Part the cases AHEAD of 'go_enter' where a test parts the walk; take each callee by a contract of your own. -/
theorem walk (a0 : ByteArray) (w0 : a0.size ≤ maxLen) (w : World) :
    Calls Try.prog 4 #[.string a0] w fun e w' => e = .returned (.bool true) ∧ Below w.heap.size w w' := by
  unfold maxLen at w0
  by_cases h1 : a0.size ≤ 1048576
  · go_enter Try.func4, Try.ntmps4
    go_wp2_with (first
      | (go_at_call 8; refine (equals_any _ _ _).mono ?_; rintro e w' ⟨rfl, rfl⟩)
      | (go_at_call 9; refine (copy_any _ a0 _ (by go_simp) (by go_simp)).mono ?_; rintro e w1 ⟨v, rfl, hg⟩; have hc0 : w1.cell? ⟨w.heap.size, 0, none⟩ = some (.string a0) := (hg.cell (p := ⟨w.heap.size, 0, none⟩) (by simp; omega)).trans (by go_simp))
      | (go_at_call 7; go_in))
    go_ret
    refine ⟨by simp, ?_⟩
    exact ((((Below.refl _ _).alloc (Nat.le_refl _) _).alloc (by simp) _).trans (hg.mono (by simp; omega)))
  · go_enter Try.func4, Try.ntmps4
    go_wp2
    go_ret
    exact ⟨rfl, Below.refl _ _⟩

/-! ### THE ROW's STEP: WRITTEN OUT: LEAVE IT -/
set_option maxRecDepth 100000 in
theorem lifted (os : Os) (started : os.Started) (H : Type) (enc : TypeId × Value → H) :
    ReturnsInHanded {} Try.checked os 4 .any (Rows.fnUserFunctionEqualsNothingOfItsKindSpec.pre6 enc Try.prog Try.f4 Rows.fnUserFunctionEqualsNothingOfItsKindRow.domain false) (Rows.fnUserFunctionEqualsNothingOfItsKindSpec.post enc Try.prog Try.f4 false true false false) := by
  refine returnsInHanded_of_change (C := Try.checked) own started (by kernel_rfl) Try.func4
    (ChangeSpec.witness6 (enc := enc) (C := Try.checked) false ⟨#[], #[.string ByteArray.empty], []⟩ 8 (by kernel_rfl) (by kernel_rfl) (by kernel_rfl) (by kernel_rfl)) ?_
  intro W base args ds gs before hval0 hW hcnd _
  have hval : ∀ (j : Nat) t v, Try.f4.params[j]? = some t → args[j]? = some v → Value.okWide Try.prog W .any base t v := hval0
  have hW' := hW
  obtain ⟨p, q, hA0, hV, rfl, hfz, hnd⟩ := hW
  have hA : DataW.TrodAll enc Try.prog W 0 (fun _ => true) true Try.f4.params.toList args.toList ds p := hA0
  rw [Try.params4] at hA hval
  obtain ⟨v0, vs0, d0, ds0, p0, q0, hargs, rfl, rfl, h0, r0⟩ := trodAll_cons hA
  obtain ⟨rfl, rfl, rfl⟩ := trodAll_nil r0
  obtain rfl : args = #[v0] := by cases args; simp_all
  obtain ⟨rfl, rfl⟩ := trodVars_none hV
  obtain ⟨a0, rfl, rfl, rfl, w0⟩ := open_string Try.underlying9 (hval 0 9 v0 rfl rfl) h0
  clear hA0 hval0
  simp only [List.append_nil] at hW'
  refine (walk a0 w0 W).mono fun e W' ⟨he, hg⟩ => ?_
  subst he
  exact ⟨_, rfl, _, _, _, [], [], [], hW', trodAll_mk1 (shut_bool Try.underlying4 _), (trodAll_cons_mk (shut_string Try.underlying9 w0) trodAll_mk0), rfl, hg.frame _, fun h => by cases h⟩

theorem over : Rows.fnUserFunctionEqualsNothingOfItsKindRow.holds Try.pinned (OpenSpec.ofChange Rows.fnUserFunctionEqualsNothingOfItsKindSpec) :=
  OpenClaim.holds_of_wide 4 Try.f4 rfl rfl rfl rfl rfl rfl rfl ⟨rfl, rfl, rfl, rfl, rfl⟩ rfl rfl rfl rfl rfl (by kernel_rfl) Try.func4 (by kernel_rfl)
    (of_decide_eq_true (by kernel_rfl)) (by unfold Func.isWrapper; first | (rw [if_pos (by decide +kernel)]; kernel_rfl) | (rw [if_neg (by decide +kernel)]; exact ⟨rfl, rfl⟩))
    (fun os started H enc _ => lifted os started H enc)

theorem proved : Rows.FnUserFunctionEqualsNothingOfItsKindSaid :=
  over
end Go.Proofs.Ytebahaclnbjnoaa.fnUserFunctionEqualsNothingOfItsKind
namespace Go.Proofs.Ytebahaclnbjnoaa
/-- The given statement. -/
theorem fnUserFunctionEqualsNothingOfItsKind_holds : Rows.FnUserFunctionEqualsNothingOfItsKindSaid := fnUserFunctionEqualsNothingOfItsKind.proved
#print axioms fnUserFunctionEqualsNothingOfItsKind_holds
end Go.Proofs.Ytebahaclnbjnoaa
