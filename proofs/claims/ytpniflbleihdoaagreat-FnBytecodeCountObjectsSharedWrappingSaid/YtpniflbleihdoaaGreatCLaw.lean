/-
  Proved: the walk of FnBytecodeCountObjectsSharedWrapping: it returns true at every argument.
  Conditions: none.
-/
import Derived.Test.YtpniflbleihdoaaGreatMkc
import Derived.Lib.LazyBuf
import Derived.Deep.OwnRows
namespace Go.Proofs.YtpniflbleihdoaaGreat.Core
open Go.ChangeShapes Go.WideShapes Go.ChangeAt Go.RowKit
set_option linter.unusedVariables false

theorem tot_le {c : Nat → Nat} {K : Nat} : ∀ {n : Nat}, (∀ j, j < n → c j ≤ K) → tot c n ≤ n * K
  | 0, _ => by simp [tot]
  | n + 1, h => by
    have h1 := tot_le (n := n) (fun j hj => h j (by omega))
    have h2 := h n (by omega)
    rw [tot, Nat.succ_mul]
    omega
/-- The list, as the counters read it. -/
theorem Out.use {w wr : World} {n : Nat} (h : Out w wr n n) : ∃ (u : Nat → Value) (c : Nat → Nat), Row wr (some ⟨w.heap.size, 0, none⟩) n u ∧ (∀ j, j < n → Counts wr (u j) (c j)) ∧ tot c n ≤ n * 65538 ∧ Only w wr [] := by
  obtain ⟨xs, c, hown, hx, ho, _⟩ := h
  have hl : xs.length = n := by simpa using hown.1
  refine ⟨fun j => xs.getD j .nilIface, c, fun hp => ⟨_, rfl, fun j hj => ?_⟩, fun j hj => (hx j hj).counts, tot_le fun j hj => (hx j hj).small, ho⟩
  have hc := hown.cells (g := w.heap.size) rfl j (xs.getD j .nilIface) (by rw [List.getD_eq_getElem?_getD, List.getElem?_eq_getElem (by omega), Option.getD_some])
  rw [Addr.add_lit, Nat.zero_add] at hc
  exact hc
theorem arr_counts {g m cap : Nat} {A : Option Addr} {u : Nat → Value} {c : Nat → Nat} {w : World} (hg : w.cell? ⟨g, 0, none⟩ = some (.slice A m cap)) (hr : Row w A m u) (hc : ∀ j, j < m → Counts w (u j) (c j)) (hm : m ≤ 1000000) (ht : tot c m ≤ 4611686018427387904) :
    Counts w (.iface 36 (.pointer (some ⟨g, 0, none⟩))) (1 + tot c m) := fun w' hb =>
  count_arr g m cap A u c w' ((hb.cell (World.block_lt_of_cell? w _ hg)).trans hg) (hr.later hb) (fun j hj => (hc j hj).later hb) hm ht
theorem err_counts {g n : Nat} {v : Value} {w : World} (hg : w.cell? ⟨g, 0, none⟩ = some v) (hc : Counts w v n) (hn : n ≤ 4611686018427387904) : Counts w (.iface 41 (.pointer (some ⟨g, 0, none⟩))) (1 + n) := fun w' hb =>
  count_err g n v w' ((hb.cell (World.block_lt_of_cell? w _ hg)).trans hg) (hc.later hb) hn

set_option maxHeartbeats 2000000 in
/-- (*Bytecode).CountObjects. -/
theorem count_bc (g m cap N : Nat) (A : Option Addr) (u : Nat → Value) (c : Nat → Nat) (w : World) (hg : w.cell? ⟨g, 2, none⟩ = some (.slice A m cap)) (hr : Row w A m u) (hc : ∀ j, j < m → Counts w (u j) (c j)) (hm : m ≤ 1000000) (ht : tot c m ≤ 4611686018427387904) (hN : tot c m = N) :
    Calls Tryz.prog 8 #[.pointer (some ⟨g, 0, none⟩)] w (Says w N) := by
  have HR := Lib.hid hr
  have HC := Lib.hid hc
  have HN := Lib.hid hN
  clear hr hc hN
  go_enter Tryz.func8, Tryz.ntmps8
  go_wp2_with fail
  go_loopw [3, 11] (fun vc vi wr => ∃ i : Nat, i ≤ m ∧ vi = .int .i64 i ∧ vc = .int .i64 ((tot c i : Nat) : Int) ∧ Hid (Below w.heap.size w wr)) (fun _ vi _ => m - (intOf vi).toNat)
  case atStart => exact ⟨0, by omega, rfl, rfl, Lib.hid (Below.refl _ _)⟩
  case round =>
    obtain ⟨i, hi, rfl, rfl, HB⟩ := hrel
    by_cases hlt : i < m
    · have hlt' : (i : Int) < (m : Int) := by omega
      obtain ⟨G, rfl, hcell⟩ := (HR.out.later HB.out) (by omega)
      have hci := hcell i hlt
      have hz := tot_mono c (show i + 1 ≤ m by omega)
      have hz2 : tot c (i + 1) = tot c i + c i := rfl
      have TZ := Lib.hid hz2
      have hb1 : tot c i + c i ≤ 4611686018427387904 := by omega
      clear hcell hz hz2
      have CK := Lib.hid (HC.out i hlt wr HB.out)
      go_wp2_with (go_at_call 10; refine CK.out.mono ?_; rintro e w1 ⟨rfl, hb⟩)
      have HB1 := Lib.hid (HB.out.trans (hb.mono HB.out.size))
      clear hb
      go_roundw
      case rel => exact ⟨i + 1, by omega, by go_num, by rw [TZ.out]; go_num, HB1⟩
      case measure => simp [intOf]; omega
    · have hlt' : ¬ (i : Int) < (m : Int) := by omega
      have : i = m := by omega
      subst this
      go_wp2_with fail
      go_ret
      exact ⟨by rw [← HN.out]; rfl, HB.out⟩

/-! ### Clones. -/
def Part (w wr : World) (t : TypeId) (n : Nat) (f : Nat → Value) (i : Nat) : Prop :=
  ∃ cs : Array Value, Hold wr w.heap.size t cs ∧ cs.size = n ∧ (∀ j, j < i → cs[j]? = some (f j)) ∧ Only w wr []
theorem Part.start (w : World) (t : TypeId) (n : Nat) (f : Nat → Value) (z : Value) : Part w (w.alloc (.cells (madeCells #[z] n) t)) t n f 0 :=
  ⟨_, Hold.fresh w _ _, by simp [madeCells], fun j hj => absurd hj (by omega), (Only.refl w []).fresh _⟩
theorem Part.step {w wr : World} {t : TypeId} {n : Nat} {f : Nat → Value} {i : Nat} (h : Part w wr t n f i) (hi : i < n) : Part w (wr.setCell ⟨w.heap.size, i, none⟩ (f i)) t n f (i + 1) := by
  obtain ⟨cs, h1, h2, h3, h4⟩ := h
  refine ⟨_, h1.put i _, by simp [h2], fun j hj => ?_, h4.put (.inr (Nat.le_refl _)) _⟩
  by_cases e : j = i
  · subst e
    rw [Array.getElem?_setIfInBounds_self, if_pos (by omega)]
  · rw [Array.getElem?_setIfInBounds_ne (by omega)]
    exact h3 j (by omega)
theorem Part.only {w wr : World} {t : TypeId} {n : Nat} {f : Nat → Value} {i : Nat} (h : Part w wr t n f i) : Only w wr [] := by obtain ⟨_, _, _, _, h4⟩ := h; exact h4
theorem Part.cell {w wr : World} {t : TypeId} {n : Nat} {f : Nat → Value} {i : Nat} (h : Part w wr t n f i) (hi : i < n) : ∃ v, wr.cell? ⟨w.heap.size, i, none⟩ = some v := by
  obtain ⟨cs, h1, h2, _⟩ := h
  rw [h1.cell]
  exact ⟨_, Array.getElem?_eq_getElem (by omega)⟩
theorem Part.free {w wr : World} {t : TypeId} {n : Nat} {f : Nat → Value} {i : Nat} (h : Part w wr t n f i) (j : Nat) : wr.frozen? ⟨w.heap.size, j, none⟩ = false := by
  obtain ⟨cs, h1, _⟩ := h
  exact h1.free j
def Cloned (w : World) (n : Nat) (f : Nat → Value) (e : Ending) (w' : World) : Prop := ∃ A cap, e = .returned (.slice A n cap) ∧ Run w' A n f ∧ Only w w' []
theorem Part.done {w wr : World} {t : TypeId} {n : Nat} {f : Nat → Value} (h : Part w wr t n f n) : Cloned w n f (.returned (.slice (some ⟨w.heap.size, 0, none⟩) n n)) wr := by
  obtain ⟨cs, h1, h2, h3, h4⟩ := h
  refine ⟨_, _, rfl, fun hp => ⟨_, _, rfl, fun j hj => ?_⟩, h4⟩
  rw [Nat.zero_add, h1.cell]
  exact h3 j hj
theorem infoU8 : (Tryz.prog.info? 5).map (fun i => (i.zero, i.size, i.bytes)) = some (some (.int .u8 0), 1, 1) := by kernel_rfl
set_option maxHeartbeats 1000000 in
theorem cloneU8 (A : Option Addr) (n cap : Nat) (zs : Nat → Nat) (w : World) (hs : Run w A n fun j => .int .u8 (zs j)) (hN : A = none → n = 0 ∧ cap = 0) (hn : n ≤ 1048576) :
    Calls Tryz.prog 5 #[.slice A n cap] w (Cloned w n fun j => .int .u8 (zs j)) := by
  cases A with
  | none =>
    obtain ⟨rfl, rfl⟩ := hN rfl
    have heq : ∀ v : World, (binOp .eql 22 (.slice none 0 0) (.slice none 0 0)).run Tryz.prog v = .ok (.bool true) v := fun v => run_eql_slice_nil v _ _ _ _ _ Tryz.underlying22
    go_enter Tryz.func5, Tryz.ntmps5
    go_wp2_with fail
    go_ret
    exact ⟨none, 0, rfl, fun h => absurd h (by omega), Only.refl _ _⟩
  | some a =>
    clear hN
    have hmk := run_make_row' (P := Tryz.prog) 22 5 (.int .u8 0) 1 Tryz.underlying22 infoU8 rfl .i64 .i64 n (by omega) (by omega)
    have HS := Lib.hid hs
    clear hs
    have heq : ∀ v : World, (binOp .eql 22 (.slice (some a) n cap) (.slice none 0 0)).run Tryz.prog v = .ok (.bool false) v := fun v => run_eql_slice_nil v _ _ _ _ _ Tryz.underlying22
    go_enter Tryz.func5, Tryz.ntmps5
    go_wp2_with fail
    clear hmk
    go_loopw [4] (fun vi wr => ∃ i : Nat, i ≤ n ∧ vi = .int .i64 i ∧ Hid (Part w wr 5 n (fun j => .int .u8 (zs j)) i)) (fun vi _ => n - (intOf vi).toNat)
    case atStart => exact ⟨0, by omega, rfl, Lib.hid (Part.start w _ n _ _)⟩
    case round =>
      obtain ⟨i, hi, rfl, HH⟩ := hrel
      by_cases hlt : i < n
      · have hlt' : (i : Int) < (n : Int) := by omega
        obtain ⟨b, o, e, hc⟩ := (HS.out.keep HH.out.only) (by omega)
        injection e with e
        subst e
        have hci : wr.cell? ⟨b, o + i, none⟩ = some (.int .u8 (zs i)) := hc i hlt
        have hfr := HH.out.free i
        obtain ⟨v, hv⟩ := HH.out.cell hlt
        clear hc
        go_wp2_with fail
        go_roundw
        case rel => exact ⟨i + 1, by omega, by go_num, Lib.hid (HH.out.step hlt)⟩
        case measure => simp [intOf]; omega
      · have hlt' : ¬ (i : Int) < (n : Int) := by omega
        have : i = n := by omega
        subst this
        go_wp2_with fail
        go_ret
        exact HH.out.done
theorem infoU16 : (Tryz.prog.info? 25).map (fun i => (i.zero, i.size, i.bytes)) = some (some (.int .u16 0), 1, 2) := by kernel_rfl
set_option maxHeartbeats 1000000 in
theorem cloneU16 (A : Option Addr) (n cap : Nat) (zs : Nat → Nat) (w : World) (hs : Run w A n fun j => .int .u16 (zs j)) (hN : A = none → n = 0 ∧ cap = 0) (hn : n ≤ 1048576) :
    Calls Tryz.prog 6 #[.slice A n cap] w (Cloned w n fun j => .int .u16 (zs j)) := by
  cases A with
  | none =>
    obtain ⟨rfl, rfl⟩ := hN rfl
    have heq : ∀ v : World, (binOp .eql 23 (.slice none 0 0) (.slice none 0 0)).run Tryz.prog v = .ok (.bool true) v := fun v => run_eql_slice_nil v _ _ _ _ _ Tryz.underlying23
    go_enter Tryz.func6, Tryz.ntmps6
    go_wp2_with fail
    go_ret
    exact ⟨none, 0, rfl, fun h => absurd h (by omega), Only.refl _ _⟩
  | some a =>
    clear hN
    have hmk := run_make_row' (P := Tryz.prog) 23 25 (.int .u16 0) 2 Tryz.underlying23 infoU16 rfl .i64 .i64 n (by omega) (by omega)
    have HS := Lib.hid hs
    clear hs
    have heq : ∀ v : World, (binOp .eql 23 (.slice (some a) n cap) (.slice none 0 0)).run Tryz.prog v = .ok (.bool false) v := fun v => run_eql_slice_nil v _ _ _ _ _ Tryz.underlying23
    go_enter Tryz.func6, Tryz.ntmps6
    go_wp2_with fail
    clear hmk
    go_loopw [4] (fun vi wr => ∃ i : Nat, i ≤ n ∧ vi = .int .i64 i ∧ Hid (Part w wr 25 n (fun j => .int .u16 (zs j)) i)) (fun vi _ => n - (intOf vi).toNat)
    case atStart => exact ⟨0, by omega, rfl, Lib.hid (Part.start w _ n _ _)⟩
    case round =>
      obtain ⟨i, hi, rfl, HH⟩ := hrel
      by_cases hlt : i < n
      · have hlt' : (i : Int) < (n : Int) := by omega
        obtain ⟨b, o, e, hc⟩ := (HS.out.keep HH.out.only) (by omega)
        injection e with e
        subst e
        have hci : wr.cell? ⟨b, o + i, none⟩ = some (.int .u16 (zs i)) := hc i hlt
        have hfr := HH.out.free i
        obtain ⟨v, hv⟩ := HH.out.cell hlt
        clear hc
        go_wp2_with fail
        go_roundw
        case rel => exact ⟨i + 1, by omega, by go_num, Lib.hid (HH.out.step hlt)⟩
        case measure => simp [intOf]; omega
      · have hlt' : ¬ (i : Int) < (n : Int) := by omega
        have : i = n := by omega
        subst this
        go_wp2_with fail
        go_ret
        exact HH.out.done
/-! ### The law. -/
def SomeB (w : World) (e : Ending) (w' : World) : Prop := (∃ b, e = .returned (.bool b)) ∧ w = w'
theorem bytes_any (A B : Option Addr) (n m cn cm : Nat) (w : World) (hn : n ≤ 9223372036854775807) (hm : m ≤ 9223372036854775807) :
    Calls Tryz.prog 4 #[.slice A n cn, .slice B m cm] w (SomeB w) := by
  by_cases c1 : 1048576 < n
  · have d1 : decide ((1048576 : Int) < (n : Int)) = true := decide_eq_true (by omega)
    go_enter Tryz.func4, Tryz.ntmps4
    go_wp2_with fail
    go_ret
    exact ⟨⟨_, rfl⟩, rfl⟩
  have d1 : decide ((1048576 : Int) < (n : Int)) = false := decide_eq_false (by omega)
  by_cases c2 : 1048576 < m
  · have d2 : decide ((1048576 : Int) < (m : Int)) = true := decide_eq_true (by omega)
    go_enter Tryz.func4, Tryz.ntmps4
    go_wp2_with fail
    go_ret
    exact ⟨⟨_, rfl⟩, rfl⟩
  have d2 : decide ((1048576 : Int) < (m : Int)) = false := decide_eq_false (by omega)
  by_cases c3 : 1048576 < n + m
  · have d3 : decide ((1048576 : Int) < (n : Int) + (m : Int)) = true := decide_eq_true (by omega)
    go_enter Tryz.func4, Tryz.ntmps4
    go_wp2_with fail
    go_ret
    exact ⟨⟨_, rfl⟩, rfl⟩
  have d3 : decide ((1048576 : Int) < (n : Int) + (m : Int)) = false := decide_eq_false (by omega)
  go_enter Tryz.func4, Tryz.ntmps4
  go_wp2_with fail
  go_ret
  exact ⟨⟨_, rfl⟩, rfl⟩
theorem below_one (w : World) (o : Obj) : Below w.heap.size w (w.alloc o) := (Below.refl _ _).alloc (Nat.le_refl _) o
/-- The last count: an array of all and an error over it. -/
theorem last_count (w : World) (G n K : Nat) (u : Nat → Value) (c : Nat → Nat) (hr : Row w (some ⟨G, 0, none⟩) n u) (hc : ∀ j, j < n → Counts w (u j) (c j)) (hn : n ≤ 65536) (hK : tot c n ≤ 1000000000000000000) (hKK : tot c n = K) :
    Calls Tryz.prog 8 #[.pointer (some ⟨w.heap.size + 1 + 1 + 1, 0, none⟩)] ((((w.alloc (.cells #[.slice (some ⟨G, 0, none⟩) n n] 40)).alloc (.cells #[.iface 36 (.pointer (some ⟨w.heap.size, 0, none⟩))] 45)).alloc (.cells #[.iface 36 (.pointer (some ⟨w.heap.size, 0, none⟩)), .iface 41 (.pointer (some ⟨w.heap.size + 1, 0, none⟩))] 43)).alloc (.cells #[.pointer none, .pointer none, .slice (some ⟨w.heap.size + 1 + 1, 0, none⟩) 2 2] 34))
      fun e w' => e = .returned (.int .i64 ((2 * K + 3 : Nat) : Int)) ∧ Below w.heap.size w w' := by
  obtain ⟨o1, ho1⟩ : ∃ o, o = Obj.cells #[.slice (some ⟨G, 0, none⟩) n n] 40 := ⟨_, rfl⟩
  obtain ⟨o2, ho2⟩ : ∃ o, o = Obj.cells #[.iface 36 (.pointer (some ⟨w.heap.size, 0, none⟩))] 45 := ⟨_, rfl⟩
  obtain ⟨o3, ho3⟩ : ∃ o, o = Obj.cells #[.iface 36 (.pointer (some ⟨w.heap.size, 0, none⟩)), .iface 41 (.pointer (some ⟨w.heap.size + 1, 0, none⟩))] 43 := ⟨_, rfl⟩
  obtain ⟨o4, ho4⟩ : ∃ o, o = Obj.cells #[.pointer none, .pointer none, .slice (some ⟨w.heap.size + 1 + 1, 0, none⟩) 2 2] 34 := ⟨_, rfl⟩
  rw [← ho1, ← ho2, ← ho3, ← ho4]
  have s1 : (w.alloc o1).heap.size = w.heap.size + 1 := by simp
  have s2 : ((w.alloc o1).alloc o2).heap.size = w.heap.size + 1 + 1 := by simp
  have s3 : (((w.alloc o1).alloc o2).alloc o3).heap.size = w.heap.size + 1 + 1 + 1 := by simp
  have bl : Below w.heap.size w ((((w.alloc o1).alloc o2).alloc o3).alloc o4) := ((((Below.refl _ _).alloc (Nat.le_refl _) o1).alloc (by omega) o2).alloc (by omega) o3).alloc (by omega) o4
  have x1 : ((((w.alloc o1).alloc o2).alloc o3).alloc o4).cell? ⟨w.heap.size, 0, none⟩ = some (.slice (some ⟨G, 0, none⟩) n n) := by
    have h := (Hold.fresh w 40 #[.slice (some ⟨G, 0, none⟩) n n])
    rw [← ho1] at h
    exact (((h.later o2).later o3).later o4).cellAt rfl
  have x2 : ((((w.alloc o1).alloc o2).alloc o3).alloc o4).cell? ⟨w.heap.size + 1, 0, none⟩ = some (.iface 36 (.pointer (some ⟨w.heap.size, 0, none⟩))) := by
    have h := (Hold.fresh (w.alloc o1) 45 #[.iface 36 (.pointer (some ⟨w.heap.size, 0, none⟩))])
    rw [← ho2, s1] at h
    exact ((h.later o3).later o4).cellAt rfl
  have x3 : ∀ j v, (#[.iface 36 (.pointer (some ⟨w.heap.size, 0, none⟩)), .iface 41 (.pointer (some ⟨w.heap.size + 1, 0, none⟩))] : Array Value)[j]? = some v → ((((w.alloc o1).alloc o2).alloc o3).alloc o4).cell? ⟨w.heap.size + 1 + 1, j, none⟩ = some v := by
    intro j v hv
    have h := (Hold.fresh ((w.alloc o1).alloc o2) 43 #[.iface 36 (.pointer (some ⟨w.heap.size, 0, none⟩)), .iface 41 (.pointer (some ⟨w.heap.size + 1, 0, none⟩))])
    rw [← ho3, s2] at h
    exact (h.later o4).cellAt hv
  have x4 : ((((w.alloc o1).alloc o2).alloc o3).alloc o4).cell? ⟨w.heap.size + 1 + 1 + 1, 2, none⟩ = some (.slice (some ⟨w.heap.size + 1 + 1, 0, none⟩) 2 2) := by
    have h := (Hold.fresh (((w.alloc o1).alloc o2).alloc o3) 34 #[.pointer none, .pointer none, .slice (some ⟨w.heap.size + 1 + 1, 0, none⟩) 2 2])
    rw [← ho4, s3] at h
    exact h.cellAt rfl
  have cA := arr_counts x1 (hr.later bl) (fun j hj => (hc j hj).later bl) (by omega) (by omega)
  have cE := err_counts x2 cA (by omega)
  rw [hKK] at cA cE
  refine (count_bc (w.heap.size + 1 + 1 + 1) 2 2 (2 * K + 3) (some ⟨w.heap.size + 1 + 1, 0, none⟩) (fun j => if j = 0 then .iface 36 (.pointer (some ⟨w.heap.size, 0, none⟩)) else .iface 41 (.pointer (some ⟨w.heap.size + 1, 0, none⟩))) (fun j => if j = 0 then 1 + K else 1 + (1 + K)) _ x4 ?_ ?_ (by omega) ?_ ?_).mono ?_
  · intro _
    refine ⟨_, rfl, fun j hj => ?_⟩
    have hj2 : j = 0 ∨ j = 1 := by omega
    rcases hj2 with rfl | rfl
    · exact x3 0 _ rfl
    · exact x3 1 _ rfl
  · intro j hj
    have hj2 : j = 0 ∨ j = 1 := by omega
    rcases hj2 with rfl | rfl
    · exact cA
    · exact cE
  · simp [tot]; omega
  · simp [tot]; omega
  · rintro e w' ⟨rfl, hb⟩
    exact ⟨rfl, bl.trans (hb.mono bl.size)⟩
set_option maxHeartbeats 8000000 in
set_option maxRecDepth 20000 in
theorem walkA (A B : Option Addr) (na nb ca cb : Nat) (ks ms : Nat → Nat) (w : World) (hk : Run w A na fun j => .int .u8 (ks j)) (hm : Run w B nb fun j => .int .u16 (ms j)) (hA : A = none → na = 0 ∧ ca = 0) (hB : B = none → nb = 0 ∧ cb = 0) (hna : na ≤ 65536) (hnb : nb ≤ 65536) (hmx : ∀ j, ms j ≤ 65536) (hkx : ∀ j, ks j < 256) (hc : ¬ nb < na) :
    Calls Tryz.prog 3 #[.slice A na ca, .slice B nb cb] w fun e w' => e = .returned (.bool true) ∧ Below w.heap.size w w' := by
  have BYT := Lib.hid (bytes_any A B na nb ca cb w (by omega) (by omega))
  have HK := Lib.hid hk
  have HM := Lib.hid hm
  have HMX := Lib.hid hmx
  have HKX := Lib.hid hkx
  have HA := Lib.hid hA
  have HB := Lib.hid hB
  clear hk hm hmx hkx hA hB
  have d0 : decide ((65536 : Int) < (na : Int)) = false := decide_eq_false (by omega)
  have d1 : decide ((65536 : Int) < (nb : Int)) = false := decide_eq_false (by omega)
  have d2 : decide ((nb : Int) < (na : Int)) = false := decide_eq_false (by omega)
  go_enter Tryz.func3, Tryz.ntmps3
  go_wp2_with fail
  refine BYT.out.mono ?_
  rintro e w0 ⟨⟨b, rfl⟩, rfl⟩
  cases b with
  | false =>
    go_wp2_with fail
    go_ret
    exact ⟨rfl, Below.refl _ _⟩
  | true =>
  go_wp2_with fail
  go_loop [6, 7] (fun vt vi => ∃ i t : Nat, i ≤ na ∧ vi = .int .i64 i ∧ vt = .int .i64 t ∧ t ≤ i * 65536) (fun _ vi => na - (intOf vi).toNat)
  case atStart => exact ⟨0, 0, by omega, rfl, rfl, by omega⟩
  case round =>
    obtain ⟨i, t, hi, rfl, rfl, ht⟩ := hrel
    by_cases hlt : i < na
    · have hlt' : (i : Int) < (na : Int) := by omega
      have hltb : (i : Int) < (nb : Int) := by omega
      obtain ⟨b2, o2, e2, hc2⟩ := HM.out (by omega)
      have k2 : w.cell? ⟨b2, o2 + i, none⟩ = some (.int .u16 (ms i)) := hc2 i (by omega)
      have hmi := HMX.out i
      clear hc2
      subst e2
      generalize ms i = mi at k2 hmi
      go_wp2_with fail
      go_round
      case rel => exact ⟨i + 1, t + mi, by omega, by go_num, by go_num, by omega⟩
      case measure => simp [intOf]; omega
    · have hlt' : ¬ (i : Int) < (na : Int) := by omega
      by_cases ht2 : 65536 < t
      · have e1 : decide ((65536 : Int) < (t : Int)) = true := decide_eq_true (by omega)
        go_wp2_with fail
        go_ret
        exact ⟨rfl, Below.refl _ _⟩
      have e1 : decide ((65536 : Int) < (t : Int)) = false := decide_eq_false (by omega)
      go_wp2_with fail
      refine (cloneU8 A na ca ks w HK.out HA.out (by omega)).mono ?_
      rintro e w1 ⟨A1, ca1, rfl, r1, s1⟩
      have R1 := Lib.hid r1
      have S1 := Lib.hid s1
      clear r1 s1
      go_wp2_with fail
      refine (cloneU16 B nb cb ms w1 (HM.out.keep S1.out) HB.out (by omega)).mono ?_
      rintro e w2 ⟨B1, cb1, rfl, r2, s2⟩
      have R2 := Lib.hid r2
      have R12 := Lib.hid (R1.out.keep s2)
      have S2 := Lib.hid (S1.out.next s2 (by simp))
      clear r2 s2 R1 S1
      go_wp2_with fail
      refine (mk_any A1 B1 na nb ca1 cb1 na ks ms w2 R12.out R2.out (by omega) (by omega) (by omega) HMX.out HKX.out).mono ?_
      rintro e w3 ⟨rfl, hout⟩
      obtain ⟨u, c, row, cts, tb, s3⟩ := hout.use
      have RW := Lib.hid row
      have CT := Lib.hid cts
      have S3 := Lib.hid (S2.out.next s3 (by simp))
      have hC : tot c na ≤ 65536 * 65538 := Nat.le_trans tb (Nat.mul_le_mul_right _ (by omega))
      clear row cts s3 hout tb S2 R12 R2
      go_wp2_with fail
      refine (count_bc w3.heap.size na na (tot c na) (some ⟨w2.heap.size, 0, none⟩) u c _ (by go_simp) (RW.out.later (below_one _ _)) (fun j hj => (CT.out j hj).later (below_one _ _)) (by omega) (by omega) rfl).mono ?_
      rintro e w4 ⟨rfl, hb4⟩
      have B4 := Lib.hid ((below_one w3 _).trans (hb4.mono (by simp)))
      clear hb4
      obtain ⟨K, hK⟩ : ∃ K, K = tot c na := ⟨_, rfl⟩
      rw [← hK] at hC
      have HKK := Lib.hid hK
      rw [← hK]
      clear hK
      have c4 : Hid (Row w4 (some ⟨w2.heap.size, 0, none⟩) na u) := Lib.hid (RW.out.later B4.out)
      have ct4 : Hid (∀ j, j < na → Counts w4 (u j) (c j)) := Lib.hid (fun j hj => (CT.out j hj).later B4.out)
      have LAST := Lib.hid (last_count w4 w2.heap.size na K u c c4.out ct4.out (by omega) (by have := HKK.out; omega) HKK.out.symm)
      clear RW CT c4 ct4
      go_wp2_with fail
      refine LAST.out.mono ?_
      rintro e w5 ⟨rfl, hb5⟩
      have B5 := Lib.hid hb5
      clear hb5
      have fin : (((2 * K + 3 : Nat) : Int) == 2 * (K : Int) + 3) = true := by rw [beq_iff_eq]; omega
      go_wp2_with fail
      go_ret
      refine ⟨by first | rfl | (simp; done) | (simp; omega), ?_⟩
      exact ((S3.out.next (Only.ofBelow B4.out []) (by simp)).next (Only.ofBelow B5.out []) (by simp)).below (Nat.le_refl _) (by simp)
set_option maxHeartbeats 8000000 in
set_option maxRecDepth 20000 in
theorem walkB (A B : Option Addr) (na nb ca cb : Nat) (ks ms : Nat → Nat) (w : World) (hk : Run w A na fun j => .int .u8 (ks j)) (hm : Run w B nb fun j => .int .u16 (ms j)) (hA : A = none → na = 0 ∧ ca = 0) (hB : B = none → nb = 0 ∧ cb = 0) (hna : na ≤ 65536) (hnb : nb ≤ 65536) (hmx : ∀ j, ms j ≤ 65536) (hkx : ∀ j, ks j < 256) (hc : nb < na) :
    Calls Tryz.prog 3 #[.slice A na ca, .slice B nb cb] w fun e w' => e = .returned (.bool true) ∧ Below w.heap.size w w' := by
  have BYT := Lib.hid (bytes_any A B na nb ca cb w (by omega) (by omega))
  have HK := Lib.hid hk
  have HM := Lib.hid hm
  have HMX := Lib.hid hmx
  have HKX := Lib.hid hkx
  have HA := Lib.hid hA
  have HB := Lib.hid hB
  clear hk hm hmx hkx hA hB
  have d0 : decide ((65536 : Int) < (na : Int)) = false := decide_eq_false (by omega)
  have d1 : decide ((65536 : Int) < (nb : Int)) = false := decide_eq_false (by omega)
  have d2 : decide ((nb : Int) < (na : Int)) = true := decide_eq_true (by omega)
  go_enter Tryz.func3, Tryz.ntmps3
  go_wp2_with fail
  refine BYT.out.mono ?_
  rintro e w0 ⟨⟨b, rfl⟩, rfl⟩
  cases b with
  | false =>
    go_wp2_with fail
    go_ret
    exact ⟨rfl, Below.refl _ _⟩
  | true =>
  go_wp2_with fail
  go_loop [6, 7] (fun vt vi => ∃ i t : Nat, i ≤ nb ∧ vi = .int .i64 i ∧ vt = .int .i64 t ∧ t ≤ i * 65536) (fun _ vi => nb - (intOf vi).toNat)
  case atStart => exact ⟨0, 0, by omega, rfl, rfl, by omega⟩
  case round =>
    obtain ⟨i, t, hi, rfl, rfl, ht⟩ := hrel
    by_cases hlt : i < nb
    · have hlt' : (i : Int) < (nb : Int) := by omega
      have hltb : (i : Int) < (nb : Int) := by omega
      obtain ⟨b2, o2, e2, hc2⟩ := HM.out (by omega)
      have k2 : w.cell? ⟨b2, o2 + i, none⟩ = some (.int .u16 (ms i)) := hc2 i (by omega)
      have hmi := HMX.out i
      clear hc2
      subst e2
      generalize ms i = mi at k2 hmi
      go_wp2_with fail
      go_round
      case rel => exact ⟨i + 1, t + mi, by omega, by go_num, by go_num, by omega⟩
      case measure => simp [intOf]; omega
    · have hlt' : ¬ (i : Int) < (nb : Int) := by omega
      by_cases ht2 : 65536 < t
      · have e1 : decide ((65536 : Int) < (t : Int)) = true := decide_eq_true (by omega)
        go_wp2_with fail
        go_ret
        exact ⟨rfl, Below.refl _ _⟩
      have e1 : decide ((65536 : Int) < (t : Int)) = false := decide_eq_false (by omega)
      go_wp2_with fail
      refine (cloneU8 A na ca ks w HK.out HA.out (by omega)).mono ?_
      rintro e w1 ⟨A1, ca1, rfl, r1, s1⟩
      have R1 := Lib.hid r1
      have S1 := Lib.hid s1
      clear r1 s1
      go_wp2_with fail
      refine (cloneU16 B nb cb ms w1 (HM.out.keep S1.out) HB.out (by omega)).mono ?_
      rintro e w2 ⟨B1, cb1, rfl, r2, s2⟩
      have R2 := Lib.hid r2
      have R12 := Lib.hid (R1.out.keep s2)
      have S2 := Lib.hid (S1.out.next s2 (by simp))
      clear r2 s2 R1 S1
      go_wp2_with fail
      refine (mk_any A1 B1 na nb ca1 cb1 nb ks ms w2 R12.out R2.out (by omega) (by omega) (by omega) HMX.out HKX.out).mono ?_
      rintro e w3 ⟨rfl, hout⟩
      obtain ⟨u, c, row, cts, tb, s3⟩ := hout.use
      have RW := Lib.hid row
      have CT := Lib.hid cts
      have S3 := Lib.hid (S2.out.next s3 (by simp))
      have hC : tot c nb ≤ 65536 * 65538 := Nat.le_trans tb (Nat.mul_le_mul_right _ (by omega))
      clear row cts s3 hout tb S2 R12 R2
      go_wp2_with fail
      refine (count_bc w3.heap.size nb nb (tot c nb) (some ⟨w2.heap.size, 0, none⟩) u c _ (by go_simp) (RW.out.later (below_one _ _)) (fun j hj => (CT.out j hj).later (below_one _ _)) (by omega) (by omega) rfl).mono ?_
      rintro e w4 ⟨rfl, hb4⟩
      have B4 := Lib.hid ((below_one w3 _).trans (hb4.mono (by simp)))
      clear hb4
      obtain ⟨K, hK⟩ : ∃ K, K = tot c nb := ⟨_, rfl⟩
      rw [← hK] at hC
      have HKK := Lib.hid hK
      rw [← hK]
      clear hK
      have c4 : Hid (Row w4 (some ⟨w2.heap.size, 0, none⟩) nb u) := Lib.hid (RW.out.later B4.out)
      have ct4 : Hid (∀ j, j < nb → Counts w4 (u j) (c j)) := Lib.hid (fun j hj => (CT.out j hj).later B4.out)
      have LAST := Lib.hid (last_count w4 w2.heap.size nb K u c c4.out ct4.out (by omega) (by have := HKK.out; omega) HKK.out.symm)
      clear RW CT c4 ct4
      go_wp2_with fail
      refine LAST.out.mono ?_
      rintro e w5 ⟨rfl, hb5⟩
      have B5 := Lib.hid hb5
      clear hb5
      have fin : (((2 * K + 3 : Nat) : Int) == 2 * (K : Int) + 3) = true := by rw [beq_iff_eq]; omega
      go_wp2_with fail
      go_ret
      refine ⟨by first | rfl | (simp; done) | (simp; omega), ?_⟩
      exact ((S3.out.next (Only.ofBelow B4.out []) (by simp)).next (Only.ofBelow B5.out []) (by simp)).below (Nat.le_refl _) (by simp)

theorem walk0 (A B : Option Addr) (na nb ca cb : Nat) (ks ms : Nat → Nat) (w : World) (hk : Run w A na fun j => .int .u8 (ks j)) (hm : Run w B nb fun j => .int .u16 (ms j)) (hA : A = none → na = 0 ∧ ca = 0) (hB : B = none → nb = 0 ∧ cb = 0) (hna : na ≤ 9223372036854775807) (hnb : nb ≤ 9223372036854775807) (hmx : ∀ j, ms j ≤ 65536) (hkx : ∀ j, ks j < 256) :
    Calls Tryz.prog 3 #[.slice A na ca, .slice B nb cb] w fun e w' => e = .returned (.bool true) ∧ Below w.heap.size w w' := by
  have BYT := Lib.hid (bytes_any A B na nb ca cb w hna hnb)
  by_cases c1 : na ≤ 65536
  · by_cases c2 : nb ≤ 65536
    · by_cases c3 : nb < na
      · exact walkB A B na nb ca cb ks ms w hk hm hA hB c1 c2 hmx hkx c3
      · exact walkA A B na nb ca cb ks ms w hk hm hA hB c1 c2 hmx hkx c3
    · clear hk hm hA hB hmx hkx
      have d0 : decide ((65536 : Int) < (na : Int)) = false := decide_eq_false (by omega)
      have d1 : decide ((65536 : Int) < (nb : Int)) = true := decide_eq_true (by omega)
      go_enter Tryz.func3, Tryz.ntmps3
      go_wp2_with fail
      refine BYT.out.mono ?_
      rintro e w0 ⟨⟨b, rfl⟩, rfl⟩
      cases b with
      | false =>
        go_wp2_with fail
        go_ret
        exact ⟨rfl, Below.refl _ _⟩
      | true =>
        go_wp2_with fail
        go_ret
        exact ⟨rfl, Below.refl _ _⟩
  · clear hk hm hA hB hmx hkx
    have d0 : decide ((65536 : Int) < (na : Int)) = true := decide_eq_true (by omega)
    go_enter Tryz.func3, Tryz.ntmps3
    go_wp2_with fail
    refine BYT.out.mono ?_
    rintro e w0 ⟨⟨b, rfl⟩, rfl⟩
    cases b with
    | false =>
      go_wp2_with fail
      go_ret
      exact ⟨rfl, Below.refl _ _⟩
    | true =>
      go_wp2_with fail
      go_ret
      exact ⟨rfl, Below.refl _ _⟩
/-- A slice of integers that came in: nil, or a row of cells (the spare ones too). -/
def IsRow (k : IntKind) (w : World) (a : Option Addr) (len cap : Nat) (zs : List Int) : Prop :=
  (a = none ∧ len = 0 ∧ cap = 0 ∧ zs = []) ∨ ∃ x, a = some x ∧ len ≤ cap ∧ cap ≤ maxLen ∧ zs.length = cap ∧ (∀ i, i < zs.length → w.cell? (x.add i) = some (.int k (zs.getD i 0))) ∧ ∀ n ∈ zs, (Lit.int k n).wf = true
theorem addr_plain {w : World} {x : Addr} {v : Value} (h : w.cell? (x.add 0) = some v) : ∃ b o, x = ⟨b, o, none⟩ := by
  obtain ⟨b, o, sp⟩ := x
  have hs : sp = none := by
    unfold World.cell? Addr.add at h
    cases sp with
    | none => rfl
    | some y => simp at h; split at h <;> simp at h
  subst hs
  exact ⟨b, o, rfl⟩
theorem IsRow.nums {k : IntKind} {K : Nat} (hk : ∀ z, (Lit.int k z).wf = true → 0 ≤ z ∧ z < K) (hK : 0 < K) {w : World} {a : Option Addr} {len cap : Nat} {zs : List Int} (h : IsRow k w a len cap zs) : Run w a len (fun j => .int k (((zs.take len).getD j 0).toNat : Nat)) ∧ (∀ j, ((zs.take len).getD j 0).toNat < K) ∧ len ≤ 9223372036854775807 ∧ (a = none → len = 0 ∧ cap = 0) := by
  rcases h with ⟨rfl, rfl, rfl, rfl⟩ | ⟨x, rfl, h1, h2, h3, h4, h5⟩
  · refine ⟨fun h => absurd h (by omega), fun j => ?_, by omega, fun _ => ⟨rfl, rfl⟩⟩
    simpa using hK
  · unfold maxLen at h2
    have hl : (zs.take len).length = len := by rw [List.length_take]; omega
    refine ⟨fun hp => ?_, fun j => ?_, by omega, fun h => by cases h⟩
    · obtain ⟨b, o, rfl⟩ := addr_plain (h4 0 (by omega))
      refine ⟨b, o, rfl, fun j hj => ?_⟩
      have hc := h4 j (by omega)
      rw [Addr.add_lit] at hc
      have hm : zs.getD j 0 ∈ zs := by rw [List.getD_eq_getElem?_getD, List.getElem?_eq_getElem (by omega), Option.getD_some]; exact List.getElem_mem _
      have hb := hk _ (h5 _ hm)
      have e : (zs.take len).getD j 0 = zs.getD j 0 := by simp only [List.getD_eq_getElem?_getD]; rw [List.getElem?_take, if_pos hj]
      show _ = some (Value.int k ((((zs.take len).getD j 0).toNat : Nat) : Int))
      rw [hc, e, Int.toNat_of_nonneg hb.1]
    · by_cases hj : j < len
      · rw [List.getD_eq_getElem?_getD, List.getElem?_eq_getElem (by omega), Option.getD_some]
        have := hk _ (h5 _ (List.mem_of_mem_take (List.getElem_mem (l := zs.take len) (n := j) (by omega))))
        omega
      · rw [List.getD_eq_getElem?_getD, List.getElem?_eq_none (by omega)]
        simpa using hK
theorem wf_u8 (z : Int) (hz : (Lit.int .u8 z).wf = true) : 0 ≤ z ∧ z < ((256 : Nat) : Int) := by
  have : 0 ≤ z ∧ z ≤ 255 := by simpa [Lit.wf, IntKind.min, IntKind.max, IntKind.signed, IntKind.bits] using hz
  omega
theorem wf_u16 (z : Int) (hz : (Lit.int .u16 z).wf = true) : 0 ≤ z ∧ z < ((65536 : Nat) : Int) := by
  have : 0 ≤ z ∧ z ≤ 65535 := by simpa [Lit.wf, IntKind.min, IntKind.max, IntKind.signed, IntKind.bits] using hz
  omega
theorem walk (w : World) (a0 : Option Addr) (len0 cap0 : Nat) (z0 : List Int) (a1 : Option Addr) (len1 cap1 : Nat) (z1 : List Int) (h0 : IsRow .u8 w a0 len0 cap0 z0) (h1 : IsRow .u16 w a1 len1 cap1 z1) :
    Calls Tryz.prog 3 #[.slice a0 len0 cap0, .slice a1 len1 cap1] w fun e w' => e = .returned (.bool true) ∧ Below w.heap.size w w' := by
  obtain ⟨p1, p2, p3, p4⟩ := h0.nums (K := 256) wf_u8 (by omega)
  obtain ⟨q1, q2, q3, q4⟩ := h1.nums (K := 65536) wf_u16 (by omega)
  exact walk0 a0 a1 len0 len1 cap0 cap1 _ _ w p1 q1 p4 q4 p3 q3 (fun j => Nat.le_of_lt (q2 j)) p2
end Go.Proofs.YtpniflbleihdoaaGreat.Core
