/-
  Proved: what (token.Token).String returns, for every int, as a plain function tokStr; and tokStr is one to one.
  Conditions: the table token.tokens and the library's uint64pow10 hold what the row lists.
-/
import Derived.Test.YtpniflbleihdoaaDoorRows
import Derived.Test.YtpniflbleihdoaaDoorShelf
import Derived.WalkKit
import Derived.ProofKit
import Derived.Handy
import Derived.Lib.LaidU8
import Derived.Lib.ItoaNum
import Derived.Lib.ItoaLen
namespace Go.Proofs.YtpniflbleihdoaaDoor.Tok
open Go.ChangeShapes Go.WideShapes Go.ChangeAt Go.RowKit Go.Shelf Go.Lib
set_option linter.unusedVariables false

/-! ### Plain: the decimal numeral is one to one. -/
def decVal (l : List UInt8) : Nat := l.foldl (fun a c => a * 10 + (c.toNat - 48)) 0
theorem decVal_snoc (l : List UInt8) (c : UInt8) : decVal (l ++ [c]) = decVal l * 10 + (c.toNat - 48) := by
  simp [decVal, List.foldl_append]
theorem decVal_decDigits (u : Nat) : decVal (decDigits u) = u := by
  induction u using Nat.strongRecOn with
  | _ u ih =>
    by_cases h : u < 10
    · rw [decDigits, dif_pos h]
      have : (UInt8.ofNat (48 + u)).toNat = 48 + u := by simp; omega
      simp only [decVal, List.foldl_cons, List.foldl_nil, this]; omega
    · rw [decDigits, dif_neg h, decVal_snoc, ih (u / 10) (by omega)]
      have : (UInt8.ofNat (48 + u % 10)).toNat = 48 + u % 10 := by simp; omega
      rw [this]; omega
theorem decDigits_inj {u v : Nat} (h : decDigits u = decDigits v) : u = v := by
  rw [← decVal_decDigits u, h, decVal_decDigits]
theorem decDigits_head (u : Nat) : ∃ c l, decDigits u = c :: l ∧ 48 ≤ c.toNat ∧ c.toNat ≤ 57 := by
  induction u using Nat.strongRecOn with
  | _ u ih =>
    by_cases h : u < 10
    · rw [decDigits, dif_pos h]
      refine ⟨_, _, rfl, ?_, ?_⟩ <;> (simp; omega)
    · rw [decDigits, dif_neg h]
      obtain ⟨c, l, e, h1, h2⟩ := ih (u / 10) (by omega)
      exact ⟨c, l ++ [UInt8.ofNat (48 + u % 10)], by rw [e]; rfl, h1, h2⟩
theorem itoa_inj {a b : Int} (h : itoa a = itoa b) : a = b := by
  unfold itoa at h
  by_cases ha : a < 0 <;> by_cases hb : b < 0
  · rw [if_pos ha, if_pos hb] at h
    have := decDigits_inj (List.cons.inj h).2
    omega
  · rw [if_pos ha, if_neg hb] at h
    obtain ⟨c, l, e, h1, _⟩ := decDigits_head b.toNat
    rw [e] at h
    have := (List.cons.inj h).1
    subst this
    exact absurd h1 (by decide)
  · rw [if_neg ha, if_pos hb] at h
    obtain ⟨c, l, e, h1, _⟩ := decDigits_head a.toNat
    rw [e] at h
    have := (List.cons.inj h).1
    subst this
    exact absurd h1 (by decide)
  · rw [if_neg ha, if_neg hb] at h
    have := decDigits_inj h
    omega

/-! ### Plain: the printed token. -/
/-- The names, as the row lists them. -/
def tokNames : List (List UInt8) := match (Rows.laid_github_com_d5_tengo_v2_token_tokens : DataW Unit) with
  | .agg ds => ds.map fun d => match d with
    | .lit (.string b) => b
    | _ => []
  | _ => []
theorem tokData : (Rows.laid_github_com_d5_tengo_v2_token_tokens : DataW Unit) = .agg (tokNames.map fun z => .lit (.string z)) := by kernel_rfl
theorem tokNames_length : tokNames.length = 75 := by decide +kernel
def tokOpen : List UInt8 := [116, 111, 107, 101, 110, 40]
def tokName (n : Int) : List UInt8 := if 0 ≤ n ∧ n < 75 then tokNames.getD n.toNat [] else []
def tokStr (n : Int) : List UInt8 := if tokName n = [] then tokOpen ++ itoa n ++ [41] else tokName n

theorem names_apart : ((List.range 75).all fun i => (List.range 75).all fun j => decide (i = j) || decide (tokNames.getD i [] = []) || decide (tokNames.getD i [] ≠ tokNames.getD j [])) = true := by decide +kernel
theorem names_open : ((List.range 75).all fun i => decide ((tokNames.getD i []).take 6 ≠ tokOpen)) = true := by decide +kernel
theorem name_at {n : Int} (h : tokName n ≠ []) : 0 ≤ n ∧ n < 75 ∧ tokName n = tokNames.getD n.toNat [] := by
  unfold tokName at h ⊢
  by_cases k : 0 ≤ n ∧ n < 75
  · rw [if_pos k]; exact ⟨k.1, k.2, rfl⟩
  · rw [if_neg k] at h; exact absurd rfl h
theorem name_not_open {n : Int} (h : tokName n ≠ []) (l : List UInt8) : tokName n ≠ tokOpen ++ l := by
  obtain ⟨h0, h1, e⟩ := name_at h
  intro he
  have := List.all_eq_true.1 names_open n.toNat (by simp; omega)
  rw [decide_eq_true_eq] at this
  apply this
  rw [← e, he]
  rfl
theorem tokStr_inj {a b : Int} (h : tokStr a = tokStr b) : a = b := by
  unfold tokStr at h
  by_cases ha : tokName a = [] <;> by_cases hb : tokName b = []
  · rw [if_pos ha, if_pos hb] at h
    have h1 := List.append_cancel_right h
    exact itoa_inj (List.append_cancel_left h1)
  · rw [if_pos ha, if_neg hb, List.append_assoc] at h
    exact absurd h.symm (name_not_open hb _)
  · rw [if_neg ha, if_pos hb, List.append_assoc] at h
    exact absurd h (name_not_open ha _)
  · rw [if_neg ha, if_neg hb] at h
    obtain ⟨a0, a1, ea⟩ := name_at ha
    obtain ⟨b0, b1, eb⟩ := name_at hb
    have := List.all_eq_true.1 (List.all_eq_true.1 names_apart a.toNat (by simp; omega)) b.toNat (by simp; omega)
    simp only [Bool.or_eq_true, decide_eq_true_eq] at this
    rcases this with (h1 | h1) | h1
    · omega
    · rw [ea] at ha; exact absurd h1 ha
    · rw [ea, eb] at h; exact absurd h h1

/-! ### From the row's condition to the cells. -/
theorem strs_of_reads {P : Program} {W : World} {name : String} {zs : List (List UInt8)} {g : Nat} {t e : TypeId} {n : Nat}
    (hg : P.globalNamed name = some g) (hty : (P.globals[g]?).map (·.type) = some t) (ht : P.underlying t = some (.array n e)) (he : P.underlying e = some .string) (hce : P.cellsOf e = 1)
    (h : VarReads P W name (.agg (zs.map fun z => .lit (.string z)))) : ∀ i, i < zs.length → W.cell? ⟨g, i, none⟩ = some (.string ⟨(zs.getD i []).toArray⟩) := by
  intro i hi
  obtain ⟨g', t', cs, fuel, p, hg', ht', hvar, hd⟩ := h
  obtain rfl := Option.some.inj (hg.symm.trans hg')
  obtain rfl := Option.some.inj (hty.symm.trans ht')
  obtain ⟨xs, m, _, hx, _, hxl, hel⟩ := DataW.trod_array ht hd
  simp only [Prod.mk.injEq, DataW.agg.injEq] at hx
  have hl : zs.length = xs.length := by have := congrArg List.length hx.1; simpa using this
  have h1 := hel i (by omega)
  have hxi : xs[i]? = some (xs[i]'(by omega)) := List.getElem?_eq_getElem (by omega)
  rw [hxi, hce, Nat.mul_one] at h1
  obtain ⟨s, hcs, hx2, _⟩ := DataW.trod_string he h1
  have hc : cs.toList[i]? = some (.string s) := by
    have := congrArg (·[0]?) hcs
    simpa [List.getElem?_take, List.getElem?_drop] using this
  have h2 : (xs.map (·.1))[i]? = some (.lit (.string s.data.toList)) := by
    rw [List.getElem?_map, hxi, hx2]; rfl
  rw [← hx.1, List.getElem?_map, List.getElem?_eq_getElem hi] at h2
  simp only [Option.map_some, Option.some.injEq, DataW.lit.injEq, Lit.string.injEq] at h2
  have hs : s = ⟨(zs.getD i []).toArray⟩ := by
    rw [List.getD_eq_getElem?_getD, List.getElem?_eq_getElem hi, Option.getD_some, h2]
  have := World.var?_cell hg hvar i
  rw [this, ← hs]
  simpa using hc
theorem tabIs_of_reads {P : Program} {W : World} {name : String} {k : IntKind} {zs : List Int} {g : Nat} {t e : TypeId} {n : Nat}
    (hg : P.globalNamed name = some g) (hty : (P.globals[g]?).map (·.type) = some t) (ht : P.underlying t = some (.array n e)) (he : P.underlying e = some (.int k)) (hce : P.cellsOf e = 1) (hct : P.cellsOf t = n)
    (h : VarReads P W name (tabData k zs)) : TabIs P W name k zs := by
  obtain ⟨g', t', cs, fuel, p, hg', ht', hvar, hd⟩ := h
  obtain rfl := Option.some.inj (hg.symm.trans hg')
  obtain rfl := Option.some.inj (hty.symm.trans ht')
  unfold TabIs
  rw [hvar, ← cells_of_tab ht he hce hct hd]
theorem pow_eq : (Rows.laid_internal_strconv_uint64pow10 : DataW Unit) = Lib.tabData .u64 Lib.pow10Tab := by kernel_rfl

/-- The names' cells. -/
def Names (w : World) : Prop := ∀ i, i < 75 → w.cell? ⟨0, i, none⟩ = some (.string ⟨(tokNames.getD i []).toArray⟩)
theorem Names.below {w w' : World} (h : Names w) (hb : Below w.heap.size w w') : Names w' := fun i hi => by
  have := h i hi
  exact (hb.cell (World.block_lt_of_cell? w _ this)).trans this

theorem itoa_world {w w' : World} (h : ∃ k os, w' = Go.Sort.grow (w.drewN k) os) : Below w.heap.size w w' := by
  obtain ⟨k, os, rfl⟩ := h
  refine ⟨rfl, rfl, rfl, ?_, fun i hi => ?_⟩
  · show w.heap.size ≤ (w.heap ++ os).size
    simp
  · show (w.heap ++ os)[i]? = w.heap[i]?
    rw [Array.getElem?_append, if_pos hi]

theorem wrapped (l : List UInt8) : ({ data := #[116, 111, 107, 101, 110, 40] } ++ (⟨l.toArray⟩ : ByteArray) ++ { data := #[41] }) = (⟨(tokOpen ++ l ++ [41]).toArray⟩ : ByteArray) := by
  apply ByteArray.ext
  simp [tokOpen]

set_option maxHeartbeats 400000 in
/-- (token.Token).String (function 42), for every int. -/
theorem str_any (n : Int) (w : World) (h0 : -9223372036854775808 ≤ n) (h1 : n ≤ 9223372036854775807) (htab : TabIs Tryd.prog w "internal/strconv.uint64pow10" .u64 pow10Tab) (hN : Names w) :
    Calls Tryd.prog 42 #[.int .i64 n] w fun e w' => e = .returned (.string ⟨(tokStr n).toArray⟩) ∧ Below w.heap.size w w' := by
  have c := Lib.hid (Tryd.strconv_Itoa n h0 h1 w htab)
  have hl21 := itoa_length_le n h0 h1
  clear htab
  by_cases hn : tokName n = []
  · have e : tokStr n = tokOpen ++ itoa n ++ [41] := by unfold tokStr; rw [if_pos hn]
    rw [e]
    clear e
    by_cases hr : 0 ≤ n ∧ n < 75
    · have hc := hN n.toNat (by omega)
      have hd : tokNames.getD n.toNat [] = [] := by unfold tokName at hn; rw [if_pos hr] at hn; exact hn
      rw [hd] at hc
      clear hn hd hN
      obtain ⟨r0, r1⟩ := hr
      go_enter Tryd.func42, Tryd.ntmps42
      go_wp2_with (go_at_call 50; refine c.out.mono ?_; rintro e w1 ⟨rfl, hw⟩)
      go_ret
      exact ⟨by rw [← wrapped]; rfl, itoa_world hw⟩
    · clear hn hN
      have hr' : n < 0 ∨ 75 ≤ n := by omega
      rcases hr' with r | r
      · go_enter Tryd.func42, Tryd.ntmps42
        go_wp2_with (go_at_call 50; refine c.out.mono ?_; rintro e w1 ⟨rfl, hw⟩)
        go_ret
        exact ⟨by rw [← wrapped]; rfl, itoa_world hw⟩
      · have d : decide (n < 75) = false := decide_eq_false (by omega)
        have d0 : decide (0 ≤ n) = true := decide_eq_true (by omega)
        go_enter Tryd.func42, Tryd.ntmps42
        go_wp2_with (go_at_call 50; refine c.out.mono ?_; rintro e w1 ⟨rfl, hw⟩)
        go_ret
        exact ⟨by rw [← wrapped]; rfl, itoa_world hw⟩
  · have e : tokStr n = tokName n := by unfold tokStr; rw [if_neg hn]
    rw [e]
    clear e
    obtain ⟨r0, r1, e⟩ := name_at hn
    have hc := hN n.toNat (by omega)
    rw [← e] at hc
    clear e hN
    obtain ⟨x, l, hl⟩ : ∃ x l, tokName n = x :: l := by
      cases hh : tokName n with
      | nil => exact absurd hh hn
      | cons x l => exact ⟨x, l, rfl⟩
    rw [hl] at hc ⊢
    clear hn hl
    go_enter Tryd.func42, Tryd.ntmps42
    go_wp2_with fail
    go_ret
    exact ⟨rfl, Below.refl _ _⟩

/-- The tables off a row's condition that lists (deBruijn32tab, deBruijn64tab, uint64pow10, tokens). -/
theorem pow_of {w : World} (h : VarReads Tryd.prog w "internal/strconv.uint64pow10" Rows.laid_internal_strconv_uint64pow10) : TabIs Tryd.prog w "internal/strconv.uint64pow10" .u64 pow10Tab := by
  rw [pow_eq] at h
  exact tabIs_of_reads (g := 2) (t := 109) (e := 98) (n := 20) (by kernel_rfl) (by kernel_rfl) (by kernel_rfl) (by kernel_rfl) (by kernel_rfl) (by kernel_rfl) h
theorem names_of {w : World} (h : VarReads Tryd.prog w "github.com/d5/tengo/v2/token.tokens" Rows.laid_github_com_d5_tengo_v2_token_tokens) : Names w := by
  rw [tokData] at h
  intro i hi
  exact strs_of_reads (g := 0) (t := 92) (e := 9) (n := 75) (by kernel_rfl) (by kernel_rfl) (by kernel_rfl) (by kernel_rfl) (by kernel_rfl) h i (by rw [tokNames_length]; exact hi)

/-- (token.Token).String at break and at continue: it only reads. -/
theorem str_break (w : World) (hN : Names w) : Calls Tryd.prog 42 #[.int .i64 60] w fun e w' => e = .returned (.string ⟨#[98, 114, 101, 97, 107]⟩) ∧ w' = w := by
  have hc := hN 60 (by omega)
  have e : tokNames.getD 60 [] = [98, 114, 101, 97, 107] := by decide +kernel
  rw [e] at hc
  clear e hN
  go_enter Tryd.func42, Tryd.ntmps42
  go_wp2_with fail
  go_ret
  exact ⟨rfl, rfl⟩
theorem str_continue (w : World) (hN : Names w) : Calls Tryd.prog 42 #[.int .i64 61] w fun e w' => e = .returned (.string ⟨#[99, 111, 110, 116, 105, 110, 117, 101]⟩) ∧ w' = w := by
  have hc := hN 61 (by omega)
  have e : tokNames.getD 61 [] = [99, 111, 110, 116, 105, 110, 117, 101] := by decide +kernel
  rw [e] at hc
  clear e hN
  go_enter Tryd.func42, Tryd.ntmps42
  go_wp2_with fail
  go_ret
  exact ⟨rfl, rfl⟩
end Go.Proofs.YtpniflbleihdoaaDoor.Tok
