/-
  Proved: the tokens' names off the row's condition, and (token.Token).String at a token with a name.
  Conditions: token.tokens starts as the program's text lays it.
-/
import Derived.Test.YtpniflbleihdoaaDoorProg
import Derived.Test.YtpniflbleihdoaaDoorRows
import Derived.Test.YtpniflbleihdoaaDoorBase
import Derived.WalkKit
import Derived.ProofKit
import Derived.Handy
import Derived.OpenShut
import Derived.Lib.Hide
import Derived.Lib.LaidTab
import Derived.Lib.LaidU8
import Derived.IntWalk
import Derived.Lay
namespace Go.Proofs.YtpniflbleihdoaaDoor.Bin
open Go.ChangeShapes Go.WideShapes Go.ChangeAt Go.RowKit Go.Lib Core
set_option linter.unusedVariables false

/-- The names, as the row lists them. -/
def tokNames : List (List UInt8) := match (Rows.laid_github_com_d5_tengo_v2_token_tokens : DataW Unit) with
  | .agg ds => ds.map fun d => match d with
    | .lit (.string b) => b
    | _ => []
  | _ => []
theorem tokData : (Rows.laid_github_com_d5_tengo_v2_token_tokens : DataW Unit) = .agg (tokNames.map fun z => .lit (.string z)) := by kernel_rfl
theorem tokNames_length : tokNames.length = 75 := by decide +kernel
def tokName (n : Int) : List UInt8 := if 0 ≤ n ∧ n < 75 then tokNames.getD n.toNat [] else []
theorem name_at {n : Int} (h : tokName n ≠ []) : 0 ≤ n ∧ n < 75 ∧ tokName n = tokNames.getD n.toNat [] := by
  unfold tokName at h ⊢
  by_cases k : 0 ≤ n ∧ n < 75
  · rw [if_pos k]; exact ⟨k.1, k.2, rfl⟩
  · rw [if_neg k] at h; exact absurd rfl h
theorem strs_of_reads {P : Program} {W : World} {name : String} {zs : List (List UInt8)} {g : Nat} {t e : TypeId} {n : Nat}
    (hg : P.globalNamed name = some g) (hty : (P.globals[g]?).map (·.type) = some t) (ht : P.underlying t = some (.array n e)) (he : P.underlying e = some .string) (hce : P.cellsOf e = 1)
    (h : VarReads P W name (.agg (zs.map fun z => .lit (.string z)))) : ∀ i, i < zs.length → W.cell? ⟨g, i, none⟩ = some (.string ⟨(zs.getD i []).toArray⟩) := by
  intro i hi
  obtain ⟨g', t', cs, fuel, p, hg', ht', hvar, hd⟩ := h
  obtain rfl := Option.some.inj (hg.symm.trans hg')
  obtain rfl := Option.some.inj (hty.symm.trans ht')
  obtain ⟨xs, m, _, hx, _, hxl, hel⟩ := DataW.trod_array ht hd
  simp only [Prod.mk.injEq, DataW.agg.injEq] at hx
  have hl : zs.length = xs.length := by have := congrArg List.length hx.1; simpa using this
  have h1 := hel i (by omega)
  have hxi : xs[i]? = some (xs[i]'(by omega)) := List.getElem?_eq_getElem (by omega)
  rw [hxi, hce, Nat.mul_one] at h1
  obtain ⟨s, hcs, hx2, _⟩ := DataW.trod_string he h1
  have hc : cs.toList[i]? = some (.string s) := by
    have := congrArg (·[0]?) hcs
    simpa [List.getElem?_take, List.getElem?_drop] using this
  have h2 : (xs.map (·.1))[i]? = some (.lit (.string s.data.toList)) := by
    rw [List.getElem?_map, hxi, hx2]; rfl
  rw [← hx.1, List.getElem?_map, List.getElem?_eq_getElem hi] at h2
  simp only [Option.map_some, Option.some.injEq, DataW.lit.injEq, Lit.string.injEq] at h2
  have hs : s = ⟨(zs.getD i []).toArray⟩ := by
    rw [List.getD_eq_getElem?_getD, List.getElem?_eq_getElem hi, Option.getD_some, h2]
  have := World.var?_cell hg hvar i
  rw [this, ← hs]
  simpa using hc
/-- The names' cells. -/
def Names (w : World) : Prop := ∀ i, i < 75 → w.cell? ⟨0, i, none⟩ = some (.string ⟨(tokNames.getD i []).toArray⟩)
theorem Names.below {w w' : World} (h : Names w) (hb : Below w.heap.size w w') : Names w' := fun i hi => by
  have := h i hi
  exact (hb.cell (World.block_lt_of_cell? w _ this)).trans this

theorem names_of {w : World} (h : VarReads Tryd.prog w "github.com/d5/tengo/v2/token.tokens" Rows.laid_github_com_d5_tengo_v2_token_tokens) : Names w := by
  rw [tokData] at h
  intro i hi
  exact strs_of_reads (g := 0) (t := 92) (e := 9) (n := 75) (by kernel_rfl) (by kernel_rfl) (by kernel_rfl) (by kernel_rfl) (by kernel_rfl) h i (by rw [tokNames_length]; exact hi)

/-- (token.Token).String at a token with a name: it only reads. -/
theorem str_named (n : Int) (w : World) (hN : Names w) (hn : tokName n ≠ []) : Calls Tryd.prog 42 #[.int .i64 n] w fun e w' => e = .returned (.string ⟨(tokName n).toArray⟩) ∧ w' = w := by
  obtain ⟨r0, r1, e⟩ := name_at hn
  have hc := hN n.toNat (by omega)
  rw [← e] at hc
  clear e hN
  obtain ⟨x, l, hl⟩ : ∃ x l, tokName n = x :: l := by
    cases hh : tokName n with
    | nil => exact absurd hh hn
    | cons x l => exact ⟨x, l, rfl⟩
  rw [hl] at hc ⊢
  clear hn hl
  go_enter Tryd.func42, Tryd.ntmps42
  go_wp2_with fail
  go_ret
  exact ⟨rfl, rfl⟩
end Go.Proofs.YtpniflbleihdoaaDoor.Bin
