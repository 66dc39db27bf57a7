/-
  Proved: the walk of the law FnStringInjective: it returns true for every two ints.
  Conditions: the tables hold what the row lists.
-/
import Derived.Test.YtebahaclnbjnoaaDoorTok
import Derived.Shelf.Unicode.PredsPay
namespace Go.Proofs.YtebahaclnbjnoaaDoor.Tok
open Go.ChangeShapes Go.WideShapes Go.ChangeAt Go.RowKit Go.Shelf Go.Lib
set_option linter.unusedVariables false

theorem int_bounds {n : Int} (h : (Lit.int .i64 n).wf = true) : -9223372036854775808 ≤ n ∧ n ≤ 9223372036854775807 := by
  simpa [Lit.wf, IntKind.min, IntKind.max, IntKind.signed, IntKind.bits] using h

/-- What the row's condition gives. -/
theorem tables {w : World} (hL : laidMet Tryd.prog Rows.fnStringInjectiveRow.laid w) : TabIs Tryd.prog w "internal/strconv.uint64pow10" .u64 pow10Tab ∧ Names w := by
  refine ⟨tabIs_of_reads (g := 4) (by kernel_rfl) (by kernel_rfl) Tryd.underlying56 Tryd.underlying37 (by kernel_rfl) (by kernel_rfl) (pow_eq ▸ laidMet.reads hL (.tail _ (.tail _ (.head _)))), fun i hi => ?_⟩
  exact strs_of_reads (g := 0) (by kernel_rfl) (by kernel_rfl) Tryd.underlying29 Tryd.underlying9 (by kernel_rfl) (tokData ▸ laidMet.reads hL (.tail _ (.tail _ (.tail _ (.head _))))) i (by rw [tokNames_length]; exact hi)

theorem walkInj (a b : Int) (wa : (Lit.int .i64 a).wf = true) (wb : (Lit.int .i64 b).wf = true) (w : World) (hL : laidMet Tryd.prog Rows.fnStringInjectiveRow.laid w) :
    Calls Tryd.prog 3 #[.int .i64 a, .int .i64 b] w fun e w' => e = .returned (.bool true) ∧ Below w.heap.size w w' := by
  obtain ⟨a0, a1⟩ := int_bounds wa
  obtain ⟨b0, b1⟩ := int_bounds wb
  obtain ⟨ht, hN⟩ := tables hL
  clear hL wa wb
  by_cases hab : a = b
  · subst hab
    clear ht hN
    have hq : ((a : Int) == a) = true := by simp
    go_enter Tryd.func3, Tryd.ntmps3
    go_wp2_with fail
    go_ret
    exact ⟨rfl, Below.refl _ _⟩
  · have hq : ((a : Int) == b) = false := by simp [hab]
    have c := Lib.hid (str_any a w a0 a1 ht hN)
    have HT := Lib.hid ht
    have HN := Lib.hid hN
    have hs := Lib.hid (fun h => hab (tokStr_inj h) : tokStr a ≠ tokStr b)
    clear ht hN hab
    go_enter Tryd.func3, Tryd.ntmps3
    go_wp2_with fail
    refine c.out.mono ?_
    rintro e w1 ⟨rfl, hb1⟩
    have d := Lib.hid (str_any b w1 b0 b1 (TabIs_below (g := 4) (by kernel_rfl) HT.out hb1) (HN.out.below hb1))
    have HB := Lib.hid hb1
    clear hb1 c
    go_wp2_with fail
    refine d.out.mono ?_
    rintro e w2 ⟨rfl, hb2⟩
    clear d
    have hne : ((tokStr a) == (tokStr b)) = false := by simpa using hs.out
    go_wp2_with fail
    go_ret
    refine ⟨?_, HB.out.trans (hb2.mono HB.out.size)⟩
    show Ending.returned (.bool _) = _
    simp [ByteArray.toList_eq, hs.out]
end Go.Proofs.YtebahaclnbjnoaaDoor.Tok
