/-
  Proved: the walk of FnTruncateFirstPrecRunes: it returns true at every argument.
  Conditions: the library's UTF-8 tables start as the program's text lays them.
-/
import Derived.Test.YtpniflbleihdoaaDoorTWalk
import Derived.Test.YtpniflbleihdoaaDoorRows
import Derived.Test.YtpniflbleihdoaaDoorTie
import Derived.Test.YtpniflbleihdoaaDoorCards
import Derived.PinnedBridge
import Derived.Lib.LaidU8T
import Derived.Lay
namespace Go.Proofs.YtpniflbleihdoaaDoor.Core
open Go.ChangeShapes Go.WideShapes Go.ChangeAt Go.RowKit
set_option linter.unusedVariables false

def u8ren : Go.Shelf.Ren := ⟨fun n => n, fun | 5 => 5 | 119 => 125 | 138 => 127 | 139 => 128 | n => n, fun | 3 => 3 | 4 => 4 | n => n⟩
theorem u8types : U8Types Tryd.prog u8ren := ⟨by kernel_rfl, by kernel_rfl, by kernel_rfl, by kernel_rfl⟩
theorem u8extra : U8Extra Tryd.prog u8ren := ⟨by kernel_rfl, by kernel_rfl, by kernel_rfl, by kernel_rfl, by kernel_rfl, by kernel_rfl, by kernel_rfl⟩
theorem tabs_of {w : World} (a : Lib.VarReads Tryd.prog w "unicode/utf8.acceptRanges" Rows.laid_unicode_utf8_acceptRanges) (f : Lib.VarReads Tryd.prog w "unicode/utf8.first" Rows.laid_unicode_utf8_first) : Tabs w := by
  have e0 : Rows.laid_unicode_utf8_first = Lib.firstData := Pinned.utf8First_eq
  have e1 : Rows.laid_unicode_utf8_acceptRanges = Lib.acceptData := by kernel_rfl
  rw [e0] at f
  rw [e1] at a
  exact utf8Tabs_of_readsT u8types u8extra f a

theorem Src.cut {w : World} {A : Option Addr} {cap : Nat} {bs : List UInt8} (h : Src w A cap bs) {q : Nat} (hq : q ≤ bs.length) : Src w A cap (bs.take q) := by
  have hl : (bs.take q).length = q := by rw [List.length_take]; omega
  refine ⟨by rw [hl]; have := h.1; omega, h.2.1, fun hp => ?_⟩
  rw [hl] at hp
  obtain ⟨b, o, rfl, hc⟩ := h.2.2 (by omega)
  refine ⟨b, o, rfl, fun j hj => ?_⟩
  rw [hl] at hj
  rw [bt_take hj]
  exact hc j (by omega)
theorem Src.tail {w : World} {b o cap : Nat} {bs : List UInt8} (h : Src w (some ⟨b, o, none⟩) cap bs) {q : Nat} (hq : q < bs.length) : Src w (some ⟨b, o + q, none⟩) (cap - q) (bs.drop q) := by
  refine ⟨by rw [List.length_drop]; have := h.1; omega, by have := h.2.1; omega, fun hp => ?_⟩
  obtain ⟨b', o', e, hc⟩ := h.2.2 (by omega)
  injection e with e
  injection e with e1 e2
  subst e1 e2
  refine ⟨b, o + q, rfl, fun j hj => ?_⟩
  rw [List.length_drop] at hj
  rw [bt_dropped, Nat.add_assoc]
  exact hc (q + j) (by omega)
theorem Src.void {w : World} (A : Option Addr) (cap : Nat) (h : cap ≤ maxLen) : Src w A cap [] := ⟨Nat.zero_le _, h, fun h => absurd h (by simp)⟩

/-- zzIsPrefix at a prefix. -/
theorem prefix_any (A : Option Addr) (cap : Nat) (bs : List UInt8) (q : Nat) (w : World) (hs : Src w A cap bs) (hN : A = none → bs.length = 0 ∧ cap = 0) (hn : bs.length ≤ 2000000) (hq : q ≤ bs.length) :
    Calls Tryd.prog 36 #[.slice A q cap, .slice A bs.length cap] w fun e w' => e = .returned (.bool true) ∧ ∃ k, w' = w.drewN k := by
  have hl : (bs.take q).length = q := by rw [List.length_take]; omega
  have C := equal_same A A cap cap (bs.take q) w (hs.cut hq) (hs.cut hq) (by omega)
  rw [hl] at C
  have C' := Lib.hid C
  have hc := hs.1
  have hm := hs.2.1
  unfold maxLen at hm
  clear C hl hs
  have d : decide ((bs.length : Int) < (q : Int)) = false := decide_eq_false (by omega)
  cases A with
  | none =>
    obtain ⟨h1, rfl⟩ := hN rfl
    have hq0 : q = 0 := by omega
    subst hq0
    rw [h1] at d ⊢
    go_enter Tryd.func36, Tryd.ntmps36
    go_wp2_with (go_at_call 35; refine C'.out.mono ?_; rintro e w1 ⟨rfl, k, rfl⟩)
    go_ret
    exact ⟨rfl, _, rfl⟩
  | some a =>
    clear hN
    have g1 : (q : Int) ≤ (cap : Int) := by omega
    go_enter Tryd.func36, Tryd.ntmps36
    go_wp2_with (go_at_call 35; refine C'.out.mono ?_; rintro e w1 ⟨rfl, k, rfl⟩)
    go_ret
    exact ⟨rfl, _, rfl⟩
/-- The rest of b behind the first q bytes, counted. -/
theorem rest_any (A : Option Addr) (cap : Nat) (bs : List UInt8) (q : Nat) (w : World) (hs : Src w A cap bs) (hN : A = none → bs.length = 0 ∧ cap = 0) (hn : bs.length ≤ 2000000) (hq : q ≤ bs.length) :
    ∃ v : Value, (∀ w' : World, (Instr.slice 31 (.slice A bs.length cap) (some (.int .i64 q)) none none).run Tryd.prog w' = .ok v w') ∧ Calls Tryd.prog 37 #[v] w fun e w' => e = .returned (.int .i64 (count bs q)) ∧ w = w' := by
  refine ⟨sliced A q bs.length cap 1, fun w' => ?_, ?_⟩
  · have hel : Tryd.prog.underlying 31 = some (.slice (Tryd.prog.elem 31)) := by kernel_rfl
    rw [run_slice_l _ _ _ _ _ hel .i64 q (by omega) (by omega)]
    have hz : ∀ w : World, (sizeOf (Tryd.prog.elem 31)).run Tryd.prog w = .ok 1 w := fun _ => by kernel_rfl
    rw [hz]
    rfl
  · unfold sliced
    rw [Nat.mul_one]
    have hl : (bs.drop q).length = bs.length - q := List.length_drop
    have hc1 := hs.1
    have hc2 := hs.2.1
    by_cases hlt : q < bs.length
    · obtain ⟨b, o, rfl, _⟩ := hs.2.2 (by omega)
      rw [if_neg (by omega), ← hl]
      have := count_any (some ⟨b, o + q, none⟩) (cap - q) (bs.drop q) w (hs.tail hlt) (by omega)
      rw [count_rest] at this
      rw [Option.map_some, Addr.add_lit]
      exact this
    · have e : bs.length - q = ([] : List UInt8).length := by simp; omega
      rw [e]
      have := count_any (if cap = q then A else A.map (·.add q)) (cap - q) [] w (Src.void _ _ (by omega)) (by simp)
      rw [count_end (by simp)] at this
      rw [count_end (by omega)]
      exact this

/-- The law's numbers. -/
theorem nums_of {bs : List UInt8} {p : Int} {k q : Nat} (hq : q = offs bs k) (hR : Reach bs k) (hk : (k : Int) ≤ p ∨ k = 0) (hc : q = bs.length ∨ (q < bs.length ∧ p ≤ (k : Int))) :
    q ≤ bs.length ∧ count (bs.take q) 0 = k ∧ count bs 0 = k + count bs q ∧ ((p < 0 ∧ k = 0) ∨ (0 ≤ p ∧ p ≤ (count bs 0 : Nat) ∧ p = k) ∨ (0 ≤ p ∧ (count bs 0 : Nat) < p ∧ count bs 0 = k)) := by
  have h1 : q ≤ bs.length := by rw [hq]; exact offs_le bs k
  have h2 := count_prefix hR
  have h3 := reach_count hR
  rw [← hq] at h2 h3
  refine ⟨h1, h2, h3, ?_⟩
  rcases hc with hc | ⟨hc, hp⟩
  · have h4 : count bs q = 0 := count_end (by omega)
    omega
  · have h4 := count_step hc
    omega

theorem bytes_any (A : Option Addr) (n cap : Nat) (p : Int) (pp : Bool) (w : World) (h : n ≤ 1048576) : Calls Tryd.prog 31 #[.slice A n cap, .int .i64 p, .bool pp] w fun e w' => e = .returned (.bool true) ∧ w = w' := by
  have d : decide ((1048576 : Int) < (n : Int)) = false := decide_eq_false (by omega)
  go_enter Tryd.func31, Tryd.ntmps31
  go_wp2_with fail
  go_ret
  exact ⟨rfl, rfl⟩
theorem bytes_no (A : Option Addr) (n cap : Nat) (p : Int) (pp : Bool) (w : World) (h : 1048576 < n) : Calls Tryd.prog 31 #[.slice A n cap, .int .i64 p, .bool pp] w fun e w' => e = .returned (.bool false) ∧ w = w' := by
  have d : decide ((1048576 : Int) < (n : Int)) = true := decide_eq_true (by omega)
  go_enter Tryd.func31, Tryd.ntmps31
  go_wp2_with fail
  go_ret
  exact ⟨rfl, rfl⟩

set_option maxHeartbeats 2000000 in
/-- Without a precision. -/
theorem walk_all (A : Option Addr) (cap : Nat) (bs : List UInt8) (p : Int) (w : World) (hs : Src w A cap bs) (hN : A = none → bs.length = 0 ∧ cap = 0) (hn : bs.length ≤ 65536) :
    Calls Tryd.prog 9 #[.slice A bs.length cap, .int .i64 p, .bool false] w fun e w' => e = .returned (.bool true) ∧ Below w.heap.size w w' := by
  have B := Lib.hid (bytes_any A bs.length cap p false w (by omega))
  have CL := Lib.hid (clone_any A cap bs w hs hN (by omega))
  have d0 : decide ((65536 : Int) < (bs.length : Int)) = false := decide_eq_false (by omega)
  clear hs hN
  go_enter Tryd.func9, Tryd.ntmps9
  go_wp2_with (first | (go_at_call 31; refine B.out.mono ?_; rintro e w1 ⟨rfl, rfl⟩))
  refine CL.out.mono ?_
  rintro e w1 ⟨A1, cap1, rfl, hs1, ho1, ha1, hN1⟩
  have O1 := Lib.hid ho1
  have S1 := Lib.hid hs1
  clear ho1 hs1 ha1 hN1 CL B
  go_wp2_with fail
  refine (fmt_any p false w1).mono ?_
  rintro e w2 ⟨f, rfl, c2, c14, hb2⟩
  have B2 := Lib.hid hb2
  clear hb2 c14
  go_wp2_with (first | (go_at_call 34; go_in) | (go_at_call 47; refine (trunc_all f A1 bs.length cap1 w2 c2).mono ?_; rintro e w3 ⟨rfl, rfl⟩) | (go_at_call 35; refine (equal_same A1 A1 cap1 cap1 bs w2 (S1.out.later B2.out) (S1.out.later B2.out) (by omega)).mono ?_; rintro e w3 ⟨rfl, k, rfl⟩))
  go_ret
  exact ⟨rfl, ((O1.out.next (Only.ofBelow B2.out []) (by simp)).draws k).below (Nat.le_refl _) (by simp)⟩

set_option maxHeartbeats 2000000 in
/-- With one. -/
theorem walk_cut (A : Option Addr) (cap : Nat) (bs : List UInt8) (p : Int) (w : World) (hs : Src w A cap bs) (hN : A = none → bs.length = 0 ∧ cap = 0) (hn : bs.length ≤ 65536) (hp0 : -65536 ≤ p) (hp1 : p ≤ 9223372036854775807) (hT : Tabs w) :
    Calls Tryd.prog 9 #[.slice A bs.length cap, .int .i64 p, .bool true] w fun e w' => e = .returned (.bool true) ∧ Below w.heap.size w w' := by
  have B := Lib.hid (bytes_any A bs.length cap p true w (by omega))
  have CL := Lib.hid (clone_any A cap bs w hs hN (by omega))
  have HT := Lib.hid hT
  have d0 : decide ((65536 : Int) < (bs.length : Int)) = false := decide_eq_false (by omega)
  clear hs hN hT
  go_enter Tryd.func9, Tryd.ntmps9
  go_wp2_with (first | (go_at_call 31; refine B.out.mono ?_; rintro e w1 ⟨rfl, rfl⟩))
  refine CL.out.mono ?_
  rintro e w1 ⟨A1, cap1, rfl, hs1, ho1, ha1, hN1⟩
  have O1 := Lib.hid ho1
  have S1 := Lib.hid hs1
  have N1 := Lib.hid hN1
  clear ho1 hs1 ha1 hN1 CL B
  go_wp2_with fail
  refine (fmt_any p true w1).mono ?_
  rintro e w2 ⟨f, rfl, c2, c14, hb2⟩
  have O2 := Lib.hid (O1.out.next (Only.ofBelow hb2 []) (by simp))
  have S2 := Lib.hid (S1.out.later hb2)
  clear hb2 S1 O1
  have TR := Lib.hid (trunc_any f A1 cap1 bs p w2 c2 c14 S2.out hn hp0 hp1 (HT.out.below (O2.out.below (Nat.le_refl _) (by simp))))
  clear c2 c14
  go_wp2_with (first | (go_at_call 34; go_in))
  refine TR.out.mono ?_
  rintro e w3 ⟨k, q, rfl, hq, hR, hk, hc, hb3⟩
  have O3 := Lib.hid (O2.out.next (Only.ofBelow hb3 []) (by simp))
  have S3 := Lib.hid (S2.out.later hb3)
  obtain ⟨hql, n1, n2, n3⟩ := nums_of hq hR hk hc
  clear hb3 S2 O2 TR hq hR hk hc
  have PX := Lib.hid (prefix_any A1 cap1 bs q w3 S3.out N1.out (by omega) hql)
  have hl : (bs.take q).length = q := by rw [List.length_take]; omega
  have CT : ∀ j, Hid (Calls Tryd.prog 37 #[.slice A1 bs.length cap1] (w3.drewN j) fun e w' => e = .returned (.int .i64 (count bs 0)) ∧ w3.drewN j = w') := fun j => Lib.hid (count_any A1 cap1 bs (w3.drewN j) S3.out (by omega))
  have CR : ∀ j, Hid (Calls Tryd.prog 37 #[.slice A1 q cap1] (w3.drewN j) fun e w' => e = .returned (.int .i64 k) ∧ w3.drewN j = w') := fun j => Lib.hid (by
    have := count_any A1 cap1 (bs.take q) (w3.drewN j) (S3.out.cut hql) (by omega)
    rwa [hl, n1] at this)
  have CS := fun j => rest_any A1 cap1 bs q (w3.drewN j) S3.out N1.out (by omega) hql
  generalize hTot : count bs 0 = T at *
  generalize hRes : count bs q = R at *
  have hTl : T ≤ 65536 := by rw [← hTot]; have := count_le bs 0; omega
  clear n1 hTot hRes hl
  have PXX := Lib.hid CS
  have CTT := Lib.hid CT
  have CRR := Lib.hid CR
  clear CS CT CR
  go_wp2_with (first | (go_at_call 36; refine PX.out.mono ?_; rintro e w4 ⟨rfl, j, rfl⟩))
  obtain ⟨v, hv, hcv⟩ := PXX.out j
  have HV := Lib.hid hcv
  clear hcv PX
  have CT := CTT.out j
  have CR := CRR.out j
  clear PXX CTT CRR
  rcases n3 with ⟨h1, h2⟩ | ⟨h1, h2, h3⟩ | ⟨h1, h2, h3⟩
  · subst h2
    have e1 : decide (p < 0) = true := decide_eq_true h1
    have e2 : decide ((T : Int) < 0) = false := decide_eq_false (by omega)
    have e3 : ((R : Int) == (T : Int)) = true := by rw [beq_iff_eq]; omega
    go_wp2_with (first | (go_at_call 37; with_reducible refine CT.out.mono ?_; rintro e w4 ⟨rfl, rfl⟩) | (go_at_call 37; with_reducible refine CR.out.mono ?_; rintro e w4 ⟨rfl, rfl⟩) | (go_at_call 37; with_reducible refine HV.out.mono ?_; rintro e w4 ⟨rfl, rfl⟩))
    go_ret
    exact ⟨by first | (simp; done) | (simp; omega), (O3.out.draws j).below (Nat.le_refl _) (by simp)⟩
  · have e1 : decide (p < 0) = false := decide_eq_false (by omega)
    have e2 : decide ((T : Int) < p) = false := decide_eq_false (by omega)
    have e3 : ((k : Int) == p) = true := by rw [beq_iff_eq]; omega
    have e4 : ((k : Int) + (R : Int) == (T : Int)) = true := by rw [beq_iff_eq]; omega
    go_wp2_with (first | (go_at_call 37; with_reducible refine CT.out.mono ?_; rintro e w4 ⟨rfl, rfl⟩) | (go_at_call 37; with_reducible refine CR.out.mono ?_; rintro e w4 ⟨rfl, rfl⟩) | (go_at_call 37; with_reducible refine HV.out.mono ?_; rintro e w4 ⟨rfl, rfl⟩))
    go_ret
    exact ⟨by first | (simp; done) | (simp; omega), (O3.out.draws j).below (Nat.le_refl _) (by simp)⟩
  · subst h3
    have hR0 : R = 0 := by omega
    subst hR0
    clear n2
    have e1 : decide (p < 0) = false := decide_eq_false (by omega)
    have e2 : decide ((T : Int) < p) = true := decide_eq_true (by omega)
    go_wp2_with (first | (go_at_call 37; with_reducible refine CT.out.mono ?_; rintro e w4 ⟨rfl, rfl⟩) | (go_at_call 37; with_reducible refine CR.out.mono ?_; rintro e w4 ⟨rfl, rfl⟩) | (go_at_call 37; with_reducible refine HV.out.mono ?_; rintro e w4 ⟨rfl, rfl⟩))
    go_ret
    exact ⟨by first | (simp; done) | (simp; omega), (O3.out.draws j).below (Nat.le_refl _) (by simp)⟩

theorem walk0 (A : Option Addr) (cap : Nat) (bs : List UInt8) (p : Int) (pp : Bool) (w : World) (hs : Src w A cap bs) (hN : A = none → bs.length = 0 ∧ cap = 0) (hn : bs.length ≤ 9223372036854775807) (hp0 : -9223372036854775808 ≤ p) (hp1 : p ≤ 9223372036854775807) (hT : Tabs w) :
    Calls Tryd.prog 9 #[.slice A bs.length cap, .int .i64 p, .bool pp] w fun e w' => e = .returned (.bool true) ∧ Below w.heap.size w w' := by
  by_cases h20 : bs.length ≤ 1048576
  · have B := Lib.hid (bytes_any A bs.length cap p pp w h20)
    by_cases h16 : bs.length ≤ 65536
    · cases pp with
      | false => exact walk_all A cap bs p w hs hN h16
      | true =>
        by_cases hp : -65536 ≤ p
        · exact walk_cut A cap bs p w hs hN h16 hp hp1 hT
        · have d0 : decide ((65536 : Int) < (bs.length : Int)) = false := decide_eq_false (by omega)
          have d1 : decide (p < -65536) = true := decide_eq_true (by omega)
          clear hs hT hN
          go_enter Tryd.func9, Tryd.ntmps9
          go_wp2_with (first | (go_at_call 31; refine B.out.mono ?_; rintro e w1 ⟨rfl, rfl⟩))
          go_ret
          exact ⟨rfl, Below.refl _ _⟩
    · have d0 : decide ((65536 : Int) < (bs.length : Int)) = true := decide_eq_true (by omega)
      clear hs hT hN
      go_enter Tryd.func9, Tryd.ntmps9
      go_wp2_with (first | (go_at_call 31; refine B.out.mono ?_; rintro e w1 ⟨rfl, rfl⟩))
      go_ret
      exact ⟨rfl, Below.refl _ _⟩
  · have B := Lib.hid (bytes_no A bs.length cap p pp w (by omega))
    clear hs hT hN
    go_enter Tryd.func9, Tryd.ntmps9
    go_wp2_with (first | (go_at_call 31; refine B.out.mono ?_; rintro e w1 ⟨rfl, rfl⟩))
    go_ret
    exact ⟨rfl, Below.refl _ _⟩
theorem walk (w : World) (a : Option Addr) (len cap : Nat) (z : List Int) (p : Int) (pp : Bool) (h : IsRow .u8 w a len cap z) (wp : (Lit.int .i64 p).wf = true) (hL : laidMet Tryd.prog Rows.fnTruncateFirstPrecRunesRow.laid w) :
    Calls Tryd.prog 9 #[.slice a len cap, .int .i64 p, .bool pp] w fun e w' => e = .returned (.bool true) ∧ Below w.heap.size w w' := by
  have hy : -9223372036854775808 ≤ p ∧ p ≤ 9223372036854775807 := by simpa [Lit.wf, IntKind.min, IntKind.max, IntKind.signed, IntKind.bits] using wp
  have e := h.bytes_len
  have hm := h.len_le
  have hw := walk0 a cap (bytesOf len z) p pp w h.src (fun ha => by subst ha; rw [e]; exact h.none) (by rw [e]; unfold maxLen at hm; omega) hy.1 hy.2 (tabs_of (Lib.laidMet.reads hL (.head _)) (Lib.laidMet.reads hL (.tail _ (.head _))))
  rwa [e] at hw
end Go.Proofs.YtpniflbleihdoaaDoor.Core
