/-
  Proved: what (SourceFilePos).String returns, fmt's text told.
  Conditions: the file name has at most 1048576 bytes.
-/
import Derived.Test.YtpniflbleihdoaaFmtProg
import Derived.WalkKit
import Derived.ProofKit
import Derived.Handy
import Derived.WalkSpells
import Derived.Lib.Hide
import Derived.IntWalk
import Derived.Stop.CallBack
import Derived.Stop.IfaceNil
import Derived.Stop.FmtTextKit
import Derived.Stop.Told
import Derived.Stop.Texts
import Derived.Lib.ItoaLen
import GoSem.ClaimData
namespace Go.Proofs.YtpniflbleihdoaaFmt.Core
open Go.ChangeShapes Go.WideShapes Go.ChangeAt Go.RowKit Go.Extern.Stop Go.Stop Go.Extern
set_option linter.unusedVariables false

/-! ### fmt's closed facts. -/
theorem call (args : Array Value) (w : World) : (callFunc 7 args).run Tryf.prog w = ((FmtStop.sprintf #[9, 43] #[9] args).run Tryf.prog w).andThen fun v w' => .ok (.value v) w' :=
  run_callFunc_extern Tryf.func7 (by kernel_rfl) (by kernel_rfl) (by kernel_rfl) (by kernel_rfl) args w
theorem guard (name : String) (w : World) : (FmtStop.guard name).run Tryf.prog w = .ok () w := by kernel_rfl
theorem printed1 : FmtStop.printed? ⟨#[37, 100]⟩ 1 = some [(0, 100, false)] := by kernel_rfl
theorem printed2 : FmtStop.printed? ⟨#[58, 37, 100]⟩ 1 = some [(0, 100, false)] := by kernel_rfl
def shapeInt : List UInt8 := [5, 3, 0, 0, 0, 0, 0, 0, 0, 105, 110, 116]
theorem operand (name : String) (x : Int) (w : World) : (FmtStop.operand name false 100 false (.iface 3 (.int .i64 x))).run Tryf.prog w = .ok (shapeInt, Go.Extern.Stop.digits 8 (x % 2 ^ 64).toNat) w := by kernel_rfl
theorem parse1 : (FmtText.parse [37, 100]).map FmtText.glue = some [.verb {} 100] := by rfl
theorem parse2 : (FmtText.parse [58, 37, 100]).map FmtText.glue = some [.lit [58], .verb {} 100] := by rfl
theorem text1 (x : Int) (hw : (Lit.int .i64 x).wf = true) : FmtText.text "fmt.Sprintf" [[37, 100], shapeInt, digits 8 (x % 18446744073709551616).toNat] = some (Lib.itoa x) := by
  have hi := FmtText.operand_int_at (sh := shapeInt) (k := .i64) rfl rfl x hw
  rw [FmtText.text_sprintf_glued parse1 (FmtText.operands_cons hi FmtText.operands_nil)]
  simp [FmtText.render, FmtText.printArg_d _ _ hw]
theorem text2 (x : Int) (hw : (Lit.int .i64 x).wf = true) : FmtText.text "fmt.Sprintf" [[58, 37, 100], shapeInt, digits 8 (x % 18446744073709551616).toNat] = some (58 :: Lib.itoa x) := by
  have hi := FmtText.operand_int_at (sh := shapeInt) (k := .i64) rfl rfl x hw
  rw [FmtText.text_sprintf_glued parse2 (FmtText.operands_cons hi FmtText.operands_nil)]
  simp [FmtText.render, FmtText.printArg_d _ _ hw]
theorem told_of (F : Interp) {reading : List (List UInt8)} {s : List UInt8} (h : FmtText.text "fmt.Sprintf" reading = some s) (hl : s.length < 2 ^ 63) : FmtStop.textOf (F.told "fmt.Sprintf" reading 0) = ⟨s.toArray⟩ := by
  have h1 := Go.Kit.textOf_list F.told "fmt.Sprintf" reading
  rw [told_string F h hl] at h1
  apply ByteArray.ext
  rw [← h1]

theorem sprintf1 (F : Interp) (g : Nat) (x : Int) (w : World) (hF : F.told.answers w.tape) (hc : w.cell? ⟨g, 0, none⟩ = some (.iface 3 (.int .i64 x))) (hw : (Lit.int .i64 x).wf = true) :
    (callFunc 7 #[.string ⟨#[37, 100]⟩, .slice (some ⟨g, 0, none⟩) 1 1]).run Tryf.prog w = .ok (.value (.string ⟨(Lib.itoa x).toArray⟩)) w.drew := by
  have hF' := answers_open hF
  have FG := fun (nm : String) (v : World) => guard nm v
  have FP := printed1
  have FO := fun (nm : String) (x : Int) (v : World) => operand nm x v
  rw [call]
  go_simp
  exact told_of F (text1 x hw) (by have := FmtText.itoa_length_le hw; omega)
theorem sprintf2 (F : Interp) (g : Nat) (x : Int) (w : World) (hF : F.told.answers w.tape) (hc : w.cell? ⟨g, 0, none⟩ = some (.iface 3 (.int .i64 x))) (hw : (Lit.int .i64 x).wf = true) :
    (callFunc 7 #[.string ⟨#[58, 37, 100]⟩, .slice (some ⟨g, 0, none⟩) 1 1]).run Tryf.prog w = .ok (.value (.string ⟨(58 :: Lib.itoa x).toArray⟩)) w.drew := by
  have hF' := answers_open hF
  have FG := fun (nm : String) (v : World) => guard nm v
  have FP := printed2
  have FO := fun (nm : String) (x : Int) (v : World) => operand nm x v
  rw [call]
  go_simp
  exact told_of F (text2 x hw) (by have := FmtText.itoa_length_le hw; simp; omega)

def posO (nm : ByteArray) (off line col : Int) : Obj := .cells #[.string nm, .int .i64 off, .int .i64 line, .int .i64 col] 24
def oneO (x : Int) : Obj := .cells #[.iface 3 (.int .i64 x)] 20
/-! ### The text. -/
def posText (nm : ByteArray) (line col : Int) : ByteArray :=
  if 0 < line then
    (if col = 0 then (if nm.toList.isEmpty then nm else nm ++ ⟨#[58]⟩) ++ ⟨(Lib.itoa line).toArray⟩
     else ((if nm.toList.isEmpty then nm else nm ++ ⟨#[58]⟩) ++ ⟨(Lib.itoa line).toArray⟩) ++ ⟨(58 :: Lib.itoa col).toArray⟩)
  else if nm.toList.isEmpty then ⟨#[45]⟩ else nm
/-- the value of a decimal text -/
def decVal (l : List UInt8) : Nat := l.foldl (fun a c => a * 10 + (c.toNat - 48)) 0

theorem decVal_snoc (l : List UInt8) (c : UInt8) : decVal (l ++ [c]) = decVal l * 10 + (c.toNat - 48) := by
  simp [decVal, List.foldl_append]

theorem decVal_decDigits (u : Nat) : decVal (Lib.decDigits u) = u := by
  induction u using Nat.strongRecOn with
  | _ u ih =>
    by_cases h : u < 10
    · rw [Lib.decDigits, dif_pos h]
      have : (UInt8.ofNat (48 + u)).toNat = 48 + u := by simp; omega
      simp only [decVal, List.foldl_cons, List.foldl_nil, this]; omega
    · rw [Lib.decDigits, dif_neg h, decVal_snoc, ih (u / 10) (by omega)]
      have : (UInt8.ofNat (48 + u % 10)).toNat = 48 + u % 10 := by simp; omega
      rw [this]; omega

theorem decDigits_inj {u v : Nat} (h : Lib.decDigits u = Lib.decDigits v) : u = v := by
  rw [← decVal_decDigits u, h, decVal_decDigits]

theorem decDigits_head (u : Nat) : ∃ c l, Lib.decDigits u = c :: l ∧ 48 ≤ c.toNat ∧ c.toNat ≤ 57 := by
  induction u using Nat.strongRecOn with
  | _ u ih =>
    by_cases h : u < 10
    · rw [Lib.decDigits, dif_pos h]
      refine ⟨_, _, rfl, ?_, ?_⟩ <;> (simp; omega)
    · rw [Lib.decDigits, dif_neg h]
      obtain ⟨c, l, e, h1, h2⟩ := ih (u / 10) (by omega)
      exact ⟨c, l ++ [UInt8.ofNat (48 + u % 10)], by rw [e]; rfl, h1, h2⟩

theorem itoa_inj {a b : Int} (h : Lib.itoa a = Lib.itoa b) : a = b := by
  unfold Lib.itoa at h
  by_cases ha : a < 0 <;> by_cases hb : b < 0
  · rw [if_pos ha, if_pos hb] at h
    have := decDigits_inj (List.cons.inj h).2
    omega
  · rw [if_pos ha, if_neg hb] at h
    obtain ⟨c, l, e, h1, _⟩ := decDigits_head b.toNat
    rw [e] at h
    have := (List.cons.inj h).1
    subst this
    exact absurd h1 (by decide)
  · rw [if_neg ha, if_pos hb] at h
    obtain ⟨c, l, e, h1, _⟩ := decDigits_head a.toNat
    rw [e] at h
    have := (List.cons.inj h).1
    subst this
    exact absurd h1 (by decide)
  · rw [if_neg ha, if_neg hb] at h
    have := decDigits_inj h
    omega

theorem itoa_ne (x : Int) : Lib.itoa x ≠ [] := by
  unfold Lib.itoa
  split
  · simp
  · obtain ⟨c, l, e, _⟩ := decDigits_head x.toNat
    rw [e]
    simp
theorem not_empty (a : ByteArray) (l : List UInt8) (h : l ≠ []) : (a ++ (⟨l.toArray⟩ : ByteArray)).toList.isEmpty = false := by
  rw [ByteArray.toList_eq]
  cases l with
  | nil => exact absurd rfl h
  | cons c l => simp [ByteArray.data_append]

set_option maxHeartbeats 2000000 in
theorem str_n1 (F : Interp) (nm : ByteArray) (off line col : Int) (w : World) (hF : F.told.answers w.tape) (wl : (Lit.int .i64 line).wf = true) (wc : (Lit.int .i64 col).wf = true) (hn : nm.size ≤ 1048576) (h0 : nm.toList.isEmpty = false) (hl : 0 < line) (hc : col ≠ 0) :
    Calls Tryf.prog 5 #[.agg #[.string nm, .int .i64 off, .int .i64 line, .int .i64 col]] w fun e w' => e = .returned (.string (((nm ++ ⟨#[58]⟩) ++ ⟨(Lib.itoa line).toArray⟩) ++ ⟨(58 :: Lib.itoa col).toArray⟩)) ∧ Below w.heap.size w w' := by
  have l1 := FmtText.itoa_length_le wl
  have l2 := FmtText.itoa_length_le wc
  have S1 := sprintf1 F (w.heap.size + 1 + 1) line (((w.alloc (posO nm off line col)).alloc (posO nm off line col)).alloc (oneO line)) hF (by unfold posO oneO; go_simp) wl
  have S2 := sprintf2 F (w.heap.size + 1 + 1 + 1) col ((((w.alloc (posO nm off line col)).alloc (posO nm off line col)).alloc (oneO line)).alloc (oneO col)).drew hF (by unfold posO oneO; go_simp) wc
  have hc' : (col != 0) = true := by simpa using hc
  have E := not_empty ((nm ++ ⟨#[58]⟩) ++ ⟨(Lib.itoa line).toArray⟩) (58 :: Lib.itoa col) (by simp)
  unfold posO oneO at S1 S2
  clear hF wl wc
  go_enter Tryf.func5, Tryf.ntmps5
  go_wp2_with (first | (go_at_call 6; go_in))
  go_ret
  refine ⟨rfl, ?_⟩
  go_grown
set_option maxHeartbeats 2000000 in
theorem str_n0 (F : Interp) (nm : ByteArray) (off line col : Int) (w : World) (hF : F.told.answers w.tape) (wl : (Lit.int .i64 line).wf = true) (wc : (Lit.int .i64 col).wf = true) (hn : nm.size ≤ 1048576) (h0 : nm.toList.isEmpty = false) (hl : 0 < line) (hc : col = 0) :
    Calls Tryf.prog 5 #[.agg #[.string nm, .int .i64 off, .int .i64 line, .int .i64 col]] w fun e w' => e = .returned (.string ((nm ++ ⟨#[58]⟩) ++ ⟨(Lib.itoa line).toArray⟩)) ∧ Below w.heap.size w w' := by
  have l1 := FmtText.itoa_length_le wl
  have l2 := FmtText.itoa_length_le wc
  subst hc
  have S1 := sprintf1 F (w.heap.size + 1 + 1) line (((w.alloc (posO nm off line 0)).alloc (posO nm off line 0)).alloc (oneO line)) hF (by unfold posO oneO; go_simp) wl
  have E := not_empty (nm ++ ⟨#[58]⟩) (Lib.itoa line) (itoa_ne line)
  unfold posO oneO at S1
  clear hF wl wc
  go_enter Tryf.func5, Tryf.ntmps5
  go_wp2_with (first | (go_at_call 6; go_in))
  go_ret
  refine ⟨rfl, ?_⟩
  go_grown
set_option maxHeartbeats 2000000 in
theorem str_e1 (F : Interp) (nm : ByteArray) (off line col : Int) (w : World) (hF : F.told.answers w.tape) (wl : (Lit.int .i64 line).wf = true) (wc : (Lit.int .i64 col).wf = true) (hn : nm.size ≤ 1048576) (h0 : nm.toList.isEmpty = true) (hl : 0 < line) (hc : col ≠ 0) :
    Calls Tryf.prog 5 #[.agg #[.string nm, .int .i64 off, .int .i64 line, .int .i64 col]] w fun e w' => e = .returned (.string ((nm ++ ⟨(Lib.itoa line).toArray⟩) ++ ⟨(58 :: Lib.itoa col).toArray⟩)) ∧ Below w.heap.size w w' := by
  have l1 := FmtText.itoa_length_le wl
  have l2 := FmtText.itoa_length_le wc
  have S1 := sprintf1 F (w.heap.size + 1 + 1) line (((w.alloc (posO nm off line col)).alloc (posO nm off line col)).alloc (oneO line)) hF (by unfold posO oneO; go_simp) wl
  have S2 := sprintf2 F (w.heap.size + 1 + 1 + 1) col ((((w.alloc (posO nm off line col)).alloc (posO nm off line col)).alloc (oneO line)).alloc (oneO col)).drew hF (by unfold posO oneO; go_simp) wc
  have hc' : (col != 0) = true := by simpa using hc
  have E := not_empty (nm ++ ⟨(Lib.itoa line).toArray⟩) (58 :: Lib.itoa col) (by simp)
  unfold posO oneO at S1 S2
  clear hF wl wc
  go_enter Tryf.func5, Tryf.ntmps5
  go_wp2_with (first | (go_at_call 6; go_in))
  go_ret
  refine ⟨rfl, ?_⟩
  go_grown
set_option maxHeartbeats 2000000 in
theorem str_e0 (F : Interp) (nm : ByteArray) (off line col : Int) (w : World) (hF : F.told.answers w.tape) (wl : (Lit.int .i64 line).wf = true) (wc : (Lit.int .i64 col).wf = true) (hn : nm.size ≤ 1048576) (h0 : nm.toList.isEmpty = true) (hl : 0 < line) (hc : col = 0) :
    Calls Tryf.prog 5 #[.agg #[.string nm, .int .i64 off, .int .i64 line, .int .i64 col]] w fun e w' => e = .returned (.string (nm ++ ⟨(Lib.itoa line).toArray⟩)) ∧ Below w.heap.size w w' := by
  have l1 := FmtText.itoa_length_le wl
  have l2 := FmtText.itoa_length_le wc
  subst hc
  have S1 := sprintf1 F (w.heap.size + 1 + 1) line (((w.alloc (posO nm off line 0)).alloc (posO nm off line 0)).alloc (oneO line)) hF (by unfold posO oneO; go_simp) wl
  have E := not_empty nm (Lib.itoa line) (itoa_ne line)
  unfold posO oneO at S1
  clear hF wl wc
  go_enter Tryf.func5, Tryf.ntmps5
  go_wp2_with (first | (go_at_call 6; go_in))
  go_ret
  refine ⟨rfl, ?_⟩
  go_grown
theorem str_be (nm : ByteArray) (off line col : Int) (w : World) (h0 : nm.toList.isEmpty = true) (hl : ¬ 0 < line) :
    Calls Tryf.prog 5 #[.agg #[.string nm, .int .i64 off, .int .i64 line, .int .i64 col]] w fun e w' => e = .returned (.string ⟨#[45]⟩) ∧ Below w.heap.size w w' := by
  have d : decide (0 < line) = false := decide_eq_false hl
  go_enter Tryf.func5, Tryf.ntmps5
  go_wp2_with (first | (go_at_call 6; go_in))
  go_ret
  refine ⟨rfl, ?_⟩
  go_grown
theorem str_bn (nm : ByteArray) (off line col : Int) (w : World) (h0 : nm.toList.isEmpty = false) (hl : ¬ 0 < line) :
    Calls Tryf.prog 5 #[.agg #[.string nm, .int .i64 off, .int .i64 line, .int .i64 col]] w fun e w' => e = .returned (.string nm) ∧ Below w.heap.size w w' := by
  have d : decide (0 < line) = false := decide_eq_false hl
  go_enter Tryf.func5, Tryf.ntmps5
  go_wp2_with (first | (go_at_call 6; go_in))
  go_ret
  refine ⟨rfl, ?_⟩
  go_grown
theorem str_any (F : Interp) (nm : ByteArray) (off line col : Int) (w : World) (hF : F.told.answers w.tape) (wl : (Lit.int .i64 line).wf = true) (wc : (Lit.int .i64 col).wf = true) (hn : nm.size ≤ 1048576) :
    Calls Tryf.prog 5 #[.agg #[.string nm, .int .i64 off, .int .i64 line, .int .i64 col]] w fun e w' => e = .returned (.string (posText nm line col)) ∧ Below w.heap.size w w' := by
  unfold posText
  by_cases hl : 0 < line
  · rw [if_pos hl]
    by_cases hc : col = 0
    · rw [if_pos hc]
      cases h0 : nm.toList.isEmpty with
      | true => rw [if_pos rfl]; exact str_e0 F nm off line col w hF wl wc hn h0 hl hc
      | false => rw [if_neg (by simp)]; exact str_n0 F nm off line col w hF wl wc hn h0 hl hc
    · rw [if_neg hc]
      cases h0 : nm.toList.isEmpty with
      | true => rw [if_pos rfl]; exact str_e1 F nm off line col w hF wl wc hn h0 hl hc
      | false => rw [if_neg (by simp)]; exact str_n1 F nm off line col w hF wl wc hn h0 hl hc
  · rw [if_neg hl]
    cases h0 : nm.toList.isEmpty with
    | true => rw [if_pos rfl]; exact str_be nm off line col w h0 hl
    | false => rw [if_neg (by simp)]; exact str_bn nm off line col w h0 hl
end Go.Proofs.YtpniflbleihdoaaFmt.Core
