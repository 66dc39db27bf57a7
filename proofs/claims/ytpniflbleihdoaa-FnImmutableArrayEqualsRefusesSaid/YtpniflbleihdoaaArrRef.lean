/-
  Proved: the walk of FnImmutableArrayEqualsRefuses: it returns true at every argument.
  Conditions: none.
-/
import Derived.Test.YtpniflbleihdoaaArrLaw
import Derived.Laws.IdiomStrings
namespace Go.Proofs.Ytpniflbleihdoaa.Core
open Go.ChangeShapes Go.WideShapes Go.ChangeAt Go.RowKit
set_option linter.unusedVariables false

theorem eqNo_int (a v : Value) (w : World) : Calls Try.prog 8 #[a, .iface 39 v] w fun e w' => e = .returned (.bool false) ∧ w = w' := by
  have t1 := as_int_arr
  have t2 := as_int_ima
  go_enter Try.func8, Try.ntmps8
  go_wp2_with fail
  go_ret
  exact ⟨rfl, rfl⟩
theorem noEq_int (a v : Value) (w : World) : Calls Try.prog 11 #[a, .iface 24 v] w fun e w' => e = .returned (.bool false) ∧ w = w' := by
  have t1 := as_ima_int
  go_enter Try.func11, Try.ntmps11
  go_wp2_with fail
  go_ret
  exact ⟨rfl, rfl⟩
theorem eqNo_str (a v : Value) (w : World) : Calls Try.prog 8 #[a, .iface 42 v] w fun e w' => e = .returned (.bool false) ∧ w = w' := by
  have t1 := as_str_arr
  have t2 := as_str_ima
  go_enter Try.func8, Try.ntmps8
  go_wp2_with fail
  go_ret
  exact ⟨rfl, rfl⟩
theorem noEq_str (a v : Value) (w : World) : Calls Try.prog 12 #[a, .iface 24 v] w fun e w' => e = .returned (.bool false) ∧ w = w' := by
  have t1 := as_ima_str
  go_enter Try.func12, Try.ntmps12
  go_wp2_with fail
  go_ret
  exact ⟨rfl, rfl⟩
theorem eqNo_byt (a v : Value) (w : World) : Calls Try.prog 8 #[a, .iface 46 v] w fun e w' => e = .returned (.bool false) ∧ w = w' := by
  have t1 := as_byt_arr
  have t2 := as_byt_ima
  go_enter Try.func8, Try.ntmps8
  go_wp2_with fail
  go_ret
  exact ⟨rfl, rfl⟩
theorem noEq_byt (a v : Value) (w : World) : Calls Try.prog 13 #[a, .iface 24 v] w fun e w' => e = .returned (.bool false) ∧ w = w' := by
  have t1 := as_ima_byt
  go_enter Try.func13, Try.ntmps13
  go_wp2_with fail
  go_ret
  exact ⟨rfl, rfl⟩
theorem eqNo_map (a v : Value) (w : World) : Calls Try.prog 8 #[a, .iface 50 v] w fun e w' => e = .returned (.bool false) ∧ w = w' := by
  have t1 := as_map_arr
  have t2 := as_map_ima
  go_enter Try.func8, Try.ntmps8
  go_wp2_with fail
  go_ret
  exact ⟨rfl, rfl⟩
theorem noEq_map (a v : Value) (w : World) : Calls Try.prog 14 #[a, .iface 24 v] w fun e w' => e = .returned (.bool false) ∧ w = w' := by
  have t1 := as_ima_map
  have t2 := as_ima_imm
  go_enter Try.func14, Try.ntmps14
  go_wp2_with fail
  go_ret
  exact ⟨rfl, rfl⟩
theorem eqNo_imm (a v : Value) (w : World) : Calls Try.prog 8 #[a, .iface 54 v] w fun e w' => e = .returned (.bool false) ∧ w = w' := by
  have t1 := as_imm_arr
  have t2 := as_imm_ima
  go_enter Try.func8, Try.ntmps8
  go_wp2_with fail
  go_ret
  exact ⟨rfl, rfl⟩
theorem noEq_imm (a v : Value) (w : World) : Calls Try.prog 15 #[a, .iface 24 v] w fun e w' => e = .returned (.bool false) ∧ w = w' := by
  have t1 := as_ima_map
  have t2 := as_ima_imm
  go_enter Try.func15, Try.ntmps15
  go_wp2_with fail
  go_ret
  exact ⟨rfl, rfl⟩
theorem eqNil (a : Value) (w : World) : Calls Try.prog 8 #[a, .nilIface] w fun e w' => e = .returned (.bool false) ∧ w = w' := by
  have t1 := as_nil_arr
  have t2 := as_nil_ima
  go_enter Try.func8, Try.ntmps8
  go_wp2_with fail
  go_ret
  exact ⟨rfl, rfl⟩

theorem bytesE_yes (A : Option Addr) (n cap : Nat) (k : Int) (s : ByteArray) (w : World) (h : n + s.size ≤ 1048576) : Calls Try.prog 10 #[.slice A n cap, .int .i64 k, .string s] w fun e w' => e = .returned (.bool true) ∧ w = w' := by
  have d0 : decide ((1048576 : Int) < (n : Int)) = false := decide_eq_false (by omega)
  have d1 : decide ((1048576 : Int) < (s.size : Int)) = false := decide_eq_false (by omega)
  have d2 : decide ((1048576 : Int) < (n : Int) + (s.size : Int)) = false := decide_eq_false (by omega)
  go_enter Try.func10, Try.ntmps10
  go_wp2_with fail
  go_ret
  exact ⟨rfl, rfl⟩
theorem bytesE_no1 (A : Option Addr) (n cap : Nat) (k : Int) (s : ByteArray) (w : World) (h : 1048576 < n) : Calls Try.prog 10 #[.slice A n cap, .int .i64 k, .string s] w fun e w' => e = .returned (.bool false) ∧ w = w' := by
  have d0 : decide ((1048576 : Int) < (n : Int)) = true := decide_eq_true (by omega)
  go_enter Try.func10, Try.ntmps10
  go_wp2_with fail
  go_ret
  exact ⟨rfl, rfl⟩
theorem bytesE_no2 (A : Option Addr) (n cap : Nat) (k : Int) (s : ByteArray) (w : World) (h : n ≤ 1048576 ∧ 1048576 < s.size) : Calls Try.prog 10 #[.slice A n cap, .int .i64 k, .string s] w fun e w' => e = .returned (.bool false) ∧ w = w' := by
  have d0 : decide ((1048576 : Int) < (n : Int)) = false := decide_eq_false (by omega)
  have d1 : decide ((1048576 : Int) < (s.size : Int)) = true := decide_eq_true (by omega)
  go_enter Try.func10, Try.ntmps10
  go_wp2_with fail
  go_ret
  exact ⟨rfl, rfl⟩
theorem bytesE_no3 (A : Option Addr) (n cap : Nat) (k : Int) (s : ByteArray) (w : World) (h : n ≤ 1048576 ∧ s.size ≤ 1048576 ∧ 1048576 < n + s.size) : Calls Try.prog 10 #[.slice A n cap, .int .i64 k, .string s] w fun e w' => e = .returned (.bool false) ∧ w = w' := by
  have d0 : decide ((1048576 : Int) < (n : Int)) = false := decide_eq_false (by omega)
  have d1 : decide ((1048576 : Int) < (s.size : Int)) = false := decide_eq_false (by omega)
  have d2 : decide ((1048576 : Int) < (n : Int) + (s.size : Int)) = true := decide_eq_true (by omega)
  go_enter Try.func10, Try.ntmps10
  go_wp2_with fail
  go_ret
  exact ⟨rfl, rfl⟩
theorem Nums.less {w : World} {A : Option Addr} {n m : Nat} {zs : List Int} (h : Nums w A n zs) (hm : m ≤ n) : Nums w A m zs := by
  intro hp
  obtain ⟨b, o, rfl, hc⟩ := h (by omega)
  exact ⟨b, o, rfl, fun j hj => hc j (by omega)⟩
theorem make_some (A : Option Addr) (n cap : Nat) (zs : List Int) (w : World) (hs : Nums w A n zs) (hn : n ≤ 131072) :
    Calls Try.prog 6 #[.slice A n cap] w fun e w' => ∃ G, e = .returned (.slice (some ⟨G, 0, none⟩) n n) ∧ Only w w' [] :=
  (make_any A n cap zs w hs hn).mono fun e w' h => ⟨_, h.1, h.2.2.1⟩

set_option maxHeartbeats 4000000 in
theorem walkE1 (A : Option Addr) (n cap : Nat) (zs : List Int) (k : Int) (s : ByteArray) (w : World) (hs : Nums w A n zs) (hcap : n ≤ cap) (hn : n ≤ 131072) (hz : s.size ≤ 524288) (hsum : n * 8 + s.size ≤ 1048576) :
    Calls Try.prog 4 #[.slice A n cap, .int .i64 k, .string s] w fun e w' => e = .returned (.bool true) ∧ Below w.heap.size w w' := by
  have B := Lib.hid (bytesE_yes A n cap k s w (by omega))
  have MK := Lib.hid (make_any A n cap zs w hs hn)
  have HS := Lib.hid hs
  clear hs
  have d0 : decide ((131072 : Int) < (n : Int)) = false := decide_eq_false (by omega)
  have d1 : decide ((524288 : Int) < (s.size : Int)) = false := decide_eq_false (by omega)
  have d2 : decide ((1048576 : Int) < (n : Int) * 8 + (s.size : Int)) = false := decide_eq_false (by omega)
  have hcv := fun w => run_bytes_of_string (P := Try.prog) w 9 47 5 s Try.underlying9 Try.underlying47 Try.underlying5
  go_enter Try.func4, Try.ntmps4
  go_wp2_with (first | (go_at_call 10; refine B.out.mono ?_; rintro e w1 ⟨rfl, rfl⟩))
  refine MK.out.mono ?_
  rintro e w1 ⟨rfl, ho1, hw1, hl1⟩
  have O1 := Lib.hid ho1
  have W1 := Lib.hid hw1
  clear ho1 hw1 MK B
  go_wp2_with fail
  refine (eqSelf w1.heap.size w.heap.size n zs _ (by go_simp) (O1.out.keep (only_one _ _)) hn).mono ?_
  rintro e w2 ⟨rfl, j, rfl⟩
  obtain ⟨X, hX⟩ : ∃ X, (w1.alloc (.cells #[.slice (some ⟨w.heap.size, 0, none⟩) n n] 30)).drewN j = X := ⟨_, rfl⟩
  rw [hX]
  have a1 : X.cell? ⟨w1.heap.size, 0, none⟩ = some (.slice (some ⟨w.heap.size, 0, none⟩) n n) := by rw [← hX]; exact ((Hold.fresh _ _ _).draws j).cellAt rfl
  have WX := Lib.hid (show Only w X [] by rw [← hX]; exact (W1.out.next (only_one _ _) (by simp)).draws j)
  clear hX
  by_cases hp : 0 < n
  · have hp' : (0 : Int) < (n : Int) := by omega
    go_wp2_with (first | (go_at_call 8; with_reducible refine (eqNil _ _).mono ?_; rintro e w9 ⟨rfl, rfl⟩) | (go_at_call 8; with_reducible refine (eqNo_int _ _ _).mono ?_; rintro e w9 ⟨rfl, rfl⟩) | (go_at_call 11; refine (noEq_int _ _ _).mono ?_; rintro e w9 ⟨rfl, rfl⟩) | (go_at_call 8; with_reducible refine (eqNo_str _ _ _).mono ?_; rintro e w9 ⟨rfl, rfl⟩) | (go_at_call 12; refine (noEq_str _ _ _).mono ?_; rintro e w9 ⟨rfl, rfl⟩) | (go_at_call 8; with_reducible refine (eqNo_byt _ _ _).mono ?_; rintro e w9 ⟨rfl, rfl⟩) | (go_at_call 13; refine (noEq_byt _ _ _).mono ?_; rintro e w9 ⟨rfl, rfl⟩) | (go_at_call 8; with_reducible refine (eqNo_map _ _ _).mono ?_; rintro e w9 ⟨rfl, rfl⟩) | (go_at_call 14; refine (noEq_map _ _ _).mono ?_; rintro e w9 ⟨rfl, rfl⟩) | (go_at_call 8; with_reducible refine (eqNo_imm _ _ _).mono ?_; rintro e w9 ⟨rfl, rfl⟩) | (go_at_call 15; refine (noEq_imm _ _ _).mono ?_; rintro e w9 ⟨rfl, rfl⟩))
    refine (make_some A (n - 1) cap zs _ ((HS.out.less (by omega)).keep (((((((WX.out.fresh _).fresh _).fresh _).fresh _).fresh _).fresh _).draw)) (by omega)).mono ?_
    rintro e w3 ⟨G, rfl, ho3⟩
    have O3 := Lib.hid (((((((((Only.refl X []).fresh _).fresh _).fresh _).fresh _).fresh _).fresh _).draw).next ho3 (by simp))
    clear ho3
    have a3 : w3.cell? ⟨w1.heap.size, 0, none⟩ = some (.slice (some ⟨w.heap.size, 0, none⟩) n n) := O3.out.cell a1 (by simp)
    have hlt : w1.heap.size < w3.heap.size := World.block_lt_of_cell? w3 _ a3
    go_wp2_with (first | (go_at_call 8; with_reducible refine (eqLenI w1.heap.size w3.heap.size n (n - 1) n (n - 1) (some ⟨w.heap.size, 0, none⟩) (some ⟨G, 0, none⟩) _ (by go_simp) (by go_simp) (by omega)).mono ?_; rintro e w9 ⟨rfl, rfl⟩) | (go_at_call 8; with_reducible refine (eqLenI w3.heap.size w1.heap.size (n - 1) n (n - 1) n (some ⟨G, 0, none⟩) (some ⟨w.heap.size, 0, none⟩) _ (by go_simp) (by go_simp) (by omega)).mono ?_; rintro e w9 ⟨rfl, rfl⟩))
    go_ret
    exact ⟨rfl, ((WX.out.next O3.out (by simp)).fresh _).below (Nat.le_refl _) (by simp)⟩
  · have hp' : ¬ (0 : Int) < (n : Int) := by omega
    go_wp2_with (first | (go_at_call 8; with_reducible refine (eqNil _ _).mono ?_; rintro e w9 ⟨rfl, rfl⟩) | (go_at_call 8; with_reducible refine (eqNo_int _ _ _).mono ?_; rintro e w9 ⟨rfl, rfl⟩) | (go_at_call 11; refine (noEq_int _ _ _).mono ?_; rintro e w9 ⟨rfl, rfl⟩) | (go_at_call 8; with_reducible refine (eqNo_str _ _ _).mono ?_; rintro e w9 ⟨rfl, rfl⟩) | (go_at_call 12; refine (noEq_str _ _ _).mono ?_; rintro e w9 ⟨rfl, rfl⟩) | (go_at_call 8; with_reducible refine (eqNo_byt _ _ _).mono ?_; rintro e w9 ⟨rfl, rfl⟩) | (go_at_call 13; refine (noEq_byt _ _ _).mono ?_; rintro e w9 ⟨rfl, rfl⟩) | (go_at_call 8; with_reducible refine (eqNo_map _ _ _).mono ?_; rintro e w9 ⟨rfl, rfl⟩) | (go_at_call 14; refine (noEq_map _ _ _).mono ?_; rintro e w9 ⟨rfl, rfl⟩) | (go_at_call 8; with_reducible refine (eqNo_imm _ _ _).mono ?_; rintro e w9 ⟨rfl, rfl⟩) | (go_at_call 15; refine (noEq_imm _ _ _).mono ?_; rintro e w9 ⟨rfl, rfl⟩))
    go_ret
    exact ⟨rfl, (((((((WX.out.fresh _).fresh _).fresh _).fresh _).fresh _).fresh _).draw).below (Nat.le_refl _) (by simp)⟩

theorem walkE0 (A : Option Addr) (n cap : Nat) (zs : List Int) (k : Int) (s : ByteArray) (w : World) (hs : Nums w A n zs) (hcap : n ≤ cap) (hn : n ≤ 9223372036854775807) (hz : s.size ≤ 9223372036854775807) :
    Calls Try.prog 4 #[.slice A n cap, .int .i64 k, .string s] w fun e w' => e = .returned (.bool true) ∧ Below w.heap.size w w' := by
  by_cases c1 : 1048576 < n
  · have B := Lib.hid (bytesE_no1 A n cap k s w c1)
    clear hs
    go_enter Try.func4, Try.ntmps4
    go_wp2_with (first | (go_at_call 10; refine B.out.mono ?_; rintro e w1 ⟨rfl, rfl⟩))
    go_ret
    exact ⟨rfl, Below.refl _ _⟩
  by_cases c2 : 1048576 < s.size
  · have B := Lib.hid (bytesE_no2 A n cap k s w ⟨by omega, c2⟩)
    clear hs
    go_enter Try.func4, Try.ntmps4
    go_wp2_with (first | (go_at_call 10; refine B.out.mono ?_; rintro e w1 ⟨rfl, rfl⟩))
    go_ret
    exact ⟨rfl, Below.refl _ _⟩
  by_cases c3 : 1048576 < n + s.size
  · have B := Lib.hid (bytesE_no3 A n cap k s w ⟨by omega, by omega, c3⟩)
    clear hs
    go_enter Try.func4, Try.ntmps4
    go_wp2_with (first | (go_at_call 10; refine B.out.mono ?_; rintro e w1 ⟨rfl, rfl⟩))
    go_ret
    exact ⟨rfl, Below.refl _ _⟩
  have B := Lib.hid (bytesE_yes A n cap k s w (by omega))
  by_cases c4 : 131072 < n
  · have d0 : decide ((131072 : Int) < (n : Int)) = true := decide_eq_true (by omega)
    clear hs
    go_enter Try.func4, Try.ntmps4
    go_wp2_with (first | (go_at_call 10; refine B.out.mono ?_; rintro e w1 ⟨rfl, rfl⟩))
    go_ret
    exact ⟨rfl, Below.refl _ _⟩
  have d0 : decide ((131072 : Int) < (n : Int)) = false := decide_eq_false (by omega)
  by_cases c5 : 524288 < s.size
  · have d1 : decide ((524288 : Int) < (s.size : Int)) = true := decide_eq_true (by omega)
    clear hs
    go_enter Try.func4, Try.ntmps4
    go_wp2_with (first | (go_at_call 10; refine B.out.mono ?_; rintro e w1 ⟨rfl, rfl⟩))
    go_ret
    exact ⟨rfl, Below.refl _ _⟩
  have d1 : decide ((524288 : Int) < (s.size : Int)) = false := decide_eq_false (by omega)
  by_cases c6 : 1048576 < n * 8 + s.size
  · have d2 : decide ((1048576 : Int) < (n : Int) * 8 + (s.size : Int)) = true := decide_eq_true (by omega)
    clear hs
    go_enter Try.func4, Try.ntmps4
    go_wp2_with (first | (go_at_call 10; refine B.out.mono ?_; rintro e w1 ⟨rfl, rfl⟩))
    go_ret
    exact ⟨rfl, Below.refl _ _⟩
  exact walkE1 A n cap zs k s w hs hcap (by omega) (by omega) (by omega)
theorem IsRow.cap_le {k : IntKind} {w : World} {a : Option Addr} {len cap : Nat} {zs : List Int} (h : IsRow k w a len cap zs) : len ≤ cap := by
  rcases h with ⟨_, rfl, rfl, _⟩ | ⟨x, _, h1, h2, _⟩
  · exact Nat.zero_le _
  · exact h1
theorem walkE (w : World) (a : Option Addr) (len cap : Nat) (z : List Int) (k : Int) (s : ByteArray) (h : IsRow .i64 w a len cap z) (wk : (Lit.int .i64 k).wf = true) (ws : s.size ≤ maxLen) :
    Calls Try.prog 4 #[.slice a len cap, .int .i64 k, .string s] w fun e w' => e = .returned (.bool true) ∧ Below w.heap.size w w' := by
  have hm := h.len_le
  unfold maxLen at hm ws
  exact walkE0 a len cap z k s w h.nums h.cap_le (by omega) (by omega)
theorem walkF (w : World) (a : Option Addr) (len cap : Nat) (z : List Int) (h : IsRow .i64 w a len cap z) :
    Calls Try.prog 3 #[.slice a len cap] w fun e w' => e = .returned (.bool true) ∧ Below w.heap.size w w' := by
  have hm := h.len_le
  unfold maxLen at hm
  exact walkF0 a len cap z w h.nums (by omega)
end Go.Proofs.Ytpniflbleihdoaa.Core
