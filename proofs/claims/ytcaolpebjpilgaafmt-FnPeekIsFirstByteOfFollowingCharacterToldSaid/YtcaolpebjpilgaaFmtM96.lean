/-
  Proved: n002_96's doors into the scanner, its maker and its model, by contract.
  Conditions: the library's UTF-8 tables hold what the row lists.
-/
import Derived.Test.YtcaolpebjpilgaaFmtModel
import Derived.Test.YtcaolpebjpilgaaFmtClone96
import Derived.Test.YtcaolpebjpilgaaFmtTabs
import Derived.Test.YtcaolpebjpilgaaFmtWs
import Derived.Deep.QuietTactic
import Derived.BigQuiet
namespace Go.Proofs.YtcaolpebjpilgaaFmt.Dec96
open Go.ChangeShapes Go.WideShapes Go.ChangeAt Go.RowKit Core
set_option linter.unusedVariables false

/-- The model at a text of no byte. -/
theorem model_empty (A : Option Addr) (cap : Nat) (w : World) :
    Calls Tryf.prog 18 #[.slice A 0 cap] w fun e w' => ∃ v, e = .returned v ∧ Own3 w.heap.size v 0 [] w w' := by
  obtain ⟨i0, hi, hz0, hz1, hz2⟩ := info_parts3 recInfo
  go_enter Tryf.func18, Tryf.ntmps18
  go_wp2_with (first
    | (at_make; refine wpList_make_own _ rfl _ _ 34 rfl w.heap.size 40 i0 (.agg #[.int .i64 0, .int .i32 0, .bool false]) 3 Tryf.underlying34 hi hz0 hz1 _ _ _ 0 rfl rfl rfl (by rw [hz2]; omega) (by unfold maxLen; omega) (Nat.le_refl _) ?_; intro w1 hown hg
       have hb : Own3 w.heap.size (.slice (some ⟨w.heap.size, 0, none⟩) 0 0) 0 [] w w1 := ⟨World.ownsRowF_of hown, (Below.refl _ _).grown hg (Nat.le_refl _) (by intro k hk; cases hk), hg.size⟩
       clear hown hg))
  go_loopw [3, 4, 5, 6, 7] (fun vo vi _ _ _ wr => vi = .int .i64 0 ∧ vo = .slice (some ⟨w.heap.size, 0, none⟩) 0 0 ∧ wr = w1) (fun _ _ _ _ _ _ => 0)
  case atStart => exact ⟨rfl, rfl, rfl⟩
  case round =>
    obtain ⟨rfl, rfl, rfl⟩ := hrel
    go_wp2_with fail
    go_ret
    exact ⟨_, rfl, hb⟩
theorem model_any (A : Option Addr) (cap : Nat) (bs : List UInt8) (w : World) (hs : Src w A cap bs) (hn : bs.length ≤ 65536) :
    Calls Tryf.prog 18 #[.slice A bs.length cap] w fun e w' => ∃ v, e = .returned v ∧ Own3 w.heap.size v (chars bs).length (recs bs (chars bs)) w w' := by
  by_cases hp : 0 < bs.length
  · obtain ⟨b, o, rfl, hc⟩ := hs.2.2 hp
    exact model_some b o cap bs w hc hn
  · have h0 : bs = [] := List.length_eq_zero_iff.1 (by omega)
    subst h0
    exact model_empty A cap w
/-- The model's row, read. -/
theorem Own3.read {B : Nat} {v : Value} {n : Nat} {xs : List Value} {W0 w : World} (h : Own3 B v n xs W0 w) : ∃ a cap, v = .slice a n cap ∧ (0 < n → ∃ g, a = some ⟨g, 0, none⟩ ∧ g < w.heap.size ∧ ∀ j u, xs[j]? = some u → w.cell? ⟨g, j, none⟩ = some u) := by
  have hc := h.1
  rcases h.1.2 with ⟨rfl, rfl⟩ | ⟨g, cap, cur, fz, rfl, hb, hg, _⟩
  · exact ⟨none, 0, rfl, fun h => absurd h (by omega)⟩
  · refine ⟨_, cap, rfl, fun _ => ⟨g, rfl, (Array.getElem?_eq_some_iff.1 hg).1, fun j u hj => ?_⟩⟩
    have := hc.cells (g := g) rfl j u hj
    rwa [Addr.add_lit, Nat.zero_add] at this
theorem off_any (S : Nat) (p : Int) (w : World) (h : w.cell? ⟨S, 3, none⟩ = some (.int .i64 p)) : Calls Tryf.prog 20 #[.pointer (some ⟨S, 0, none⟩)] w fun e w' => e = .returned (.int .i64 p) ∧ w = w' := by
  go_enter Tryf.func20, Tryf.ntmps20
  go_wp2_with fail
  go_ret
  exact ⟨rfl, rfl⟩
theorem ch_any (S : Nat) (p : Int) (w : World) (h : w.cell? ⟨S, 2, none⟩ = some (.int .i32 p)) : Calls Tryf.prog 21 #[.pointer (some ⟨S, 0, none⟩)] w fun e w' => e = .returned (.int .i32 p) ∧ w = w' := by
  go_enter Tryf.func21, Tryf.ntmps21
  go_wp2_with fail
  go_ret
  exact ⟨rfl, rfl⟩
theorem count_any (S : Nat) (p : Int) (w : World) (h : w.cell? ⟨S, 8, none⟩ = some (.int .i64 p)) : Calls Tryf.prog 15 #[.pointer (some ⟨S, 0, none⟩)] w fun e w' => e = .returned (.int .i64 p) ∧ w = w' := by
  go_enter Tryf.func15, Tryf.ntmps15
  go_wp2_with fail
  go_ret
  exact ⟨rfl, rfl⟩
theorem next_door {w0 w : World} {S : Nat} {bs : List UInt8} {semi : Bool} {mode : Int} {p : Nat} {errs : Int} (h : Live w0 w S bs semi mode p errs) (h0 : 0 ≤ errs) (h1 : errs < 4611686018427387904) :
    Calls Tryf.prog 22 #[.pointer (some ⟨S, 0, none⟩)] w fun e w' => e = .returned (.tuple #[]) ∧ Live w0 w' S bs semi mode (nxRd bs p) (errs + nxErr bs (nxRd bs p)) := by
  have C := Lib.hid (live_next h h0 h1)
  clear h
  go_enter Tryf.func22, Tryf.ntmps22
  go_wp2_with fail
  refine C.out.mono ?_
  rintro e w1 ⟨rfl, h, _⟩
  go_wp2_with fail
  go_end0
  exact ⟨rfl, h⟩
set_option maxHeartbeats 1000000 in
theorem made_any (A : Option Addr) (cap : Nat) (bs : List UInt8) (w : World) (hs : Src w A cap bs) (hn : bs.length ≤ 1500000) (hT : Tabs w) :
    Calls Tryf.prog 19 #[.slice A bs.length cap] w fun e w' => ∃ S F, e = .returned (.tuple #[.pointer (some ⟨S, 0, none⟩), .pointer (some ⟨F, 0, none⟩)]) ∧ Live w w' S bs false 0 (bom bs) (nxErr bs (bom bs)) := by
  have HS := Lib.hid hs
  have HT := Lib.hid hT
  clear hs hT
  go_enter Tryf.func19, Tryf.ntmps19
  go_wp2_with fail
  refine (newFileSet_any w).mono ?_
  rintro e w1 ⟨rfl, rfl⟩
  have hH := Lib.hid (Hold.fresh w 48 #[.int .i64 1, .slice none 0 0, .pointer none])
  have o1 := Lib.hid ((Only.refl w []).fresh (.cells #[.int .i64 1, .slice none 0 0, .pointer none] 48))
  have e1 := Lib.hid (show (w.alloc (.cells #[.int .i64 1, .slice none 0 0, .pointer none] 48)).heap.size = w.heap.size + 1 by simp)
  generalize w.alloc (.cells #[.int .i64 1, .slice none 0 0, .pointer none] 48) = w1 at *
  go_wp2_with fail
  refine (addFile_any w.heap.size bs.length _ w1 hH.out (by omega)).mono ?_
  rintro e w2 ⟨F, L, rfl, hF, hF0, hL0, o2⟩
  have HF := Lib.hid hF
  have HF0 := Lib.hid hF0
  have HL0 := Lib.hid hL0
  have o3 := Lib.hid (o1.out.next o2 (by simp))
  clear hF hF0 hL0 o2
  go_wp2_with fail
  refine (newScanner_any F L A cap bs 0 w2 HF.out (HS.out.keep o3.out (by simp)) ?_ (by omega) (HT.out.only o3.out) ?_).mono ?_
  · intro hp a ha
    obtain ⟨b, o, rfl, hc⟩ := HS.out.2.2 hp
    have h1 := World.block_lt_of_cell? w _ (hc 0 hp)
    have h2 := HF0.out
    have h3 := HL0.out
    have h4 := e1.out
    injection ha with ha
    subst ha
    simp only at h1 ⊢
    omega
  · have h1 := HT.out.lt
    have h2 := HF0.out
    have h3 := HL0.out
    have h4 := e1.out
    simp
    omega
  · rintro e w3 hN
    obtain ⟨S, rfl, hL⟩ := live_made (S := 0) HT.out (by omega) o3.out (by have := HF0.out; have := e1.out; omega) (by have := HL0.out; have := e1.out; omega) hN
    have HLv := Lib.hid hL
    clear hN hL
    go_wp2_with fail
    go_ret2
    exact ⟨S, F, rfl, HLv.out⟩
end Go.Proofs.YtcaolpebjpilgaaFmt.Dec96
