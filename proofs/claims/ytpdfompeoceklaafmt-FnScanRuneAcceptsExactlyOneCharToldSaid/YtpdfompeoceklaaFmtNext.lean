/-
  Proved: (*Scanner).next, with no error handler, as a contract: which character it reads, where it stands, what it counts.
  Conditions: at most 2000000 bytes of source; fewer than 2^62 errors so far; Go's utf8 tables as the row lists them.
-/
import Derived.Test.YtpdfompeoceklaaFmtLine
import Derived.Test.YtpdfompeoceklaaFmtShelf
import Derived.Lib.DecodeN
import Derived.Deep.QuietTactic
import Derived.BigQuiet
import Derived.Deep.RegionWith
import Derived.RegionTactic
import Derived.StillTailTactics
namespace Go.Proofs.YtpdfompeoceklaaFmt.Core
open Go.RowKit
set_option linter.unusedVariables false

/-! ### Plain: the characters of a source text. -/
/-- Byte i; 0 behind the end. -/
def bt (bs : List UInt8) (i : Nat) : Nat := (bs.getD i 0).toNat
/-- The character that begins at byte i, and its width. -/
def dec (bs : List UInt8) (i : Nat) : Nat × Nat := Lib.decodeN (bs.length - i) (bt bs i) (bt bs (i + 1)) (bt bs (i + 2)) (bt bs (i + 3))
/-- It is one that the scanner reports. -/
def bad (bs : List UInt8) (i : Nat) : Prop := (dec bs i).1 = 0 ∨ ((dec bs i).1 = 65533 ∧ (dec bs i).2 = 1) ∨ ((dec bs i).1 = 65279 ∧ 0 < i)
instance (bs : List UInt8) (i : Nat) : Decidable (bad bs i) := by unfold bad; exact inferInstance
def nxCh (bs : List UInt8) (rd : Nat) : Int := if rd < bs.length then ((dec bs rd).1 : Int) else -1
def nxOff (bs : List UInt8) (rd : Nat) : Nat := if rd < bs.length then rd else bs.length
def nxRd (bs : List UInt8) (rd : Nat) : Nat := if rd < bs.length then rd + (dec bs rd).2 else rd
def nxErr (bs : List UInt8) (rd : Nat) : Int := if rd < bs.length ∧ bad bs rd then 1 else 0

theorem bt_lt (bs : List UInt8) (i : Nat) : bt bs i < 256 := by unfold bt; exact (bs.getD i 0).toNat_lt
theorem decodeN_width (n b0 b1 b2 b3 : Nat) (hn : 1 ≤ n) : 1 ≤ (Lib.decodeN n b0 b1 b2 b3).2 ∧ (Lib.decodeN n b0 b1 b2 b3).2 ≤ n ∧ (Lib.decodeN n b0 b1 b2 b3).2 ≤ 4 := by
  unfold Lib.decodeN
  repeat' split
  all_goals (simp only; omega)
theorem decodeN_rune (n b0 b1 b2 b3 : Nat) (h0 : b0 < 256) : (Lib.decodeN n b0 b1 b2 b3).1 ≤ 1114111 := by
  unfold Lib.decodeN
  repeat' split
  all_goals (simp only; omega)
theorem decodeN_ascii (n b0 b1 b2 b3 : Nat) (h : b0 < 128) : Lib.decodeN n b0 b1 b2 b3 = (b0, 1) := by unfold Lib.decodeN; rw [if_pos h]
theorem decodeN_high (n b0 b1 b2 b3 : Nat) (h : 128 ≤ b0) : 128 ≤ (Lib.decodeN n b0 b1 b2 b3).1 := by
  unfold Lib.decodeN
  rw [if_neg (by omega)]
  repeat' split
  all_goals (simp only; omega)
theorem dec_width (bs : List UInt8) {i : Nat} (h : i < bs.length) : 1 ≤ (dec bs i).2 ∧ i + (dec bs i).2 ≤ bs.length ∧ (dec bs i).2 ≤ 4 := by
  have := decodeN_width (bs.length - i) (bt bs i) (bt bs (i + 1)) (bt bs (i + 2)) (bt bs (i + 3)) (by omega)
  unfold dec
  omega
theorem dec_ascii (bs : List UInt8) {i : Nat} (h : bt bs i < 128) : dec bs i = (bt bs i, 1) := decodeN_ascii _ _ _ _ _ h
theorem dec_high (bs : List UInt8) {i : Nat} (h : 128 ≤ bt bs i) : 128 ≤ (dec bs i).1 := decodeN_high _ _ _ _ _ h
theorem dec_rune (bs : List UInt8) (i : Nat) : (dec bs i).1 ≤ 1114111 := decodeN_rune _ _ _ _ _ (bt_lt bs i)

theorem get_drop (bs : List UInt8) (i j : Nat) : ((⟨(bs.drop i).toArray⟩ : ByteArray).get! j).toNat = bt bs (i + j) := by
  unfold bt
  show ((bs.drop i).toArray[j]!).toNat = _
  simp [List.getElem?_drop]
  rfl
theorem decodeGo_drop (bs : List UInt8) {i : Nat} (h : i < bs.length) : Lib.decodeGo ⟨(bs.drop i).toArray⟩ = dec bs i := by
  have hs : (⟨(bs.drop i).toArray⟩ : ByteArray).size = bs.length - i := by
    show (bs.drop i).toArray.size = _
    simp
  unfold Lib.decodeGo
  rw [if_neg (by rw [hs]; omega), Lib.decode_at, hs, get_drop, get_drop, get_drop, get_drop]
  rfl

/-! ### The scanner's memory. -/
/-- The slice's cells hold the bytes bs. -/
def Src (w : World) (A : Option Addr) (cap : Nat) (bs : List UInt8) : Prop :=
  bs.length ≤ cap ∧ cap ≤ maxLen ∧ (0 < bs.length → ∃ b o, A = some ⟨b, o, none⟩ ∧ ∀ j, j < bs.length → w.cell? ⟨b, o + j, none⟩ = some (.int .u8 (bt bs j)))
theorem Src.keep {w w' : World} {A : Option Addr} {cap : Nat} {bs : List UInt8} {gs : List Nat} (h : Src w A cap bs) (ho : Only w w' gs) (hA : 0 < bs.length → ∀ a, A = some a → a.block ∉ gs) : Src w' A cap bs := by
  refine ⟨h.1, h.2.1, fun hp => ?_⟩
  obtain ⟨b, o, rfl, hc⟩ := h.2.2 hp
  exact ⟨b, o, rfl, fun j hj => ho.cell (hc j hj) (hA hp ⟨b, o, none⟩ rfl)⟩
theorem Src.later {w w' : World} {A : Option Addr} {cap : Nat} {bs : List UInt8} (h : Src w A cap bs) (hb : Below w.heap.size w w') : Src w' A cap bs := h.keep (Only.ofBelow hb []) (by simp)

/-- The scanner's ten cells. -/
def cellsOf (F : Nat) (A : Option Addr) (n cap : Nat) (semi : Bool) (mode ch : Int) (off rd : Int) (lo errs : Int) : Array Value :=
  #[.pointer (some ⟨F, 0, none⟩), .slice A n cap, .int .i32 ch, .int .i64 off, .int .i64 rd, .int .i64 lo, .bool semi, .nilFunc, .int .i64 errs, .int .i64 mode]
/-- A scanner without a handler behind block S, its file behind F, the file's lines in L: it reads bs, stands at off with the character ch, reads on at rd, has counted errs. -/
def Scn (w : World) (S F L : Nat) (A : Option Addr) (cap : Nat) (bs : List UInt8) (semi : Bool) (mode ch : Int) (off rd : Nat) (errs : Int) : Prop :=
  (∃ lo : Int, Hold w S 54 (cellsOf F A bs.length cap semi mode ch off rd lo errs)) ∧ Fil w F L bs.length ∧ Src w A cap bs ∧ (0 < bs.length → ∀ a, A = some a → a.block ≠ S ∧ a.block ≠ F ∧ a.block ≠ L)

theorem Scn.lt {w : World} {S F L : Nat} {A : Option Addr} {cap : Nat} {bs : List UInt8} {semi : Bool} {mode ch : Int} {off rd : Nat} {errs : Int} (h : Scn w S F L A cap bs semi mode ch off rd errs) :
    S < w.heap.size ∧ F < w.heap.size ∧ L < w.heap.size ∧ S ≠ F ∧ S ≠ L ∧ F ≠ L := by
  obtain ⟨⟨lo, hS⟩, hF, _⟩ := h
  obtain ⟨h1, h2, h3⟩ := hF.lt
  obtain ⟨fs, nm, bse, k, c, xs, k1, k2, _⟩ := hF
  refine ⟨hS.lt, h1, h2, Hold.apart hS k1 (by decide), ?_, h3⟩
  rcases k2.2 with ⟨e, _⟩ | ⟨g, cap, cur, e, _, hh, _⟩
  · cases e
  · injection e with e1 e2 e3
    injection e1 with e1
    injection e1 with e1
    subst e1
    exact Hold.apart hS hh (by decide)

/-- It is kept wherever its three blocks, and the source's, are. -/
theorem Scn.keep {w w' : World} {S F L : Nat} {A : Option Addr} {cap : Nat} {bs : List UInt8} {semi : Bool} {mode ch : Int} {off rd : Nat} {errs : Int} {gs : List Nat} (h : Scn w S F L A cap bs semi mode ch off rd errs)
    (ho : Only w w' gs) (hS : S ∉ gs) (hF : F ∉ gs) (hL : L ∉ gs) (hA : 0 < bs.length → ∀ a, A = some a → a.block ∉ gs) : Scn w' S F L A cap bs semi mode ch off rd errs := by
  obtain ⟨⟨lo, h1⟩, h2, h3, h4⟩ := h
  exact ⟨⟨lo, ho.hold h1 hS⟩, h2.keep ho hF hL, h3.keep ho hA, h4⟩
theorem Scn.later {w w' : World} {S F L : Nat} {A : Option Addr} {cap : Nat} {bs : List UInt8} {semi : Bool} {mode ch : Int} {off rd : Nat} {errs : Int} (h : Scn w S F L A cap bs semi mode ch off rd errs)
    (hb : Below w.heap.size w w') : Scn w' S F L A cap bs semi mode ch off rd errs := h.keep (Only.ofBelow hb []) (by simp) (by simp) (by simp) (by simp)

/-- (*Scanner).error with no handler: one more is counted. -/
theorem error_any (S : Nat) (c0 c1 c2 c3 c4 c5 c6 c9 : Value) (errs : Int) (o : Int) (m : ByteArray) (w : World) (h : Hold w S 54 #[c0, c1, c2, c3, c4, c5, c6, .nilFunc, .int .i64 errs, c9]) (h0 : 0 ≤ errs) (h1 : errs < 4611686018427387904) :
    Calls Tryf.prog 43 #[.pointer (some ⟨S, 0, none⟩), .int .i64 o, .string m] w fun e w' => e = .returned (.tuple #[]) ∧ w.setCell ⟨S, 8, none⟩ (.int .i64 (errs + 1)) = w' := by
  have f7 : w.cell? ⟨S, 7, none⟩ = some .nilFunc := h.cellAt rfl
  have f8 : w.cell? ⟨S, 8, none⟩ = some (.int .i64 errs) := h.cellAt rfl
  have z8 : w.frozen? ⟨S, 8, none⟩ = false := h.free 8
  have H := Lib.hid h
  clear h
  have nn : ∀ w : World, (binOp .neq 52 .nilFunc .nilFunc).run Tryf.prog w = .ok (.bool false) w := fun _ => by kernel_rfl
  go_enter Tryf.func43, Tryf.ntmps43
  go_wp2_with fail
  go_end0
  exact ⟨rfl, rfl⟩

/-- What next leaves. -/
def Nexted (w : World) (S F L : Nat) (A : Option Addr) (cap : Nat) (bs : List UInt8) (semi : Bool) (mode : Int) (rd : Nat) (errs : Int) (e : Ending) (w' : World) : Prop :=
  e = .returned (.tuple #[]) ∧ ∃ L', Scn w' S F L' A cap bs semi mode (nxCh bs rd) (nxOff bs rd) (nxRd bs rd) (errs + nxErr bs rd) ∧ (L' = L ∨ w.heap.size ≤ L') ∧ Only w w' [S, F, L]

theorem nexted_end {w w' : World} {S F L L' : Nat} {A : Option Addr} {cap : Nat} {bs : List UInt8} {semi : Bool} {mode : Int} {rd : Nat} {errs lo : Int} (hr : bs.length ≤ rd)
    (hlt : S < w.heap.size ∧ F < w.heap.size ∧ L < w.heap.size ∧ S ≠ F ∧ S ≠ L ∧ F ≠ L) (hap : 0 < bs.length → ∀ a, A = some a → a.block ≠ S ∧ a.block ≠ F ∧ a.block ≠ L) (hsrc : Src w A cap bs)
    (hS : Hold w' S 54 (cellsOf F A bs.length cap semi mode (-1) bs.length rd lo errs)) (hF : Fil w' F L' bs.length) (hL : L' = L ∨ w.heap.size ≤ L') (ho : Only w w' [S, F, L]) :
    Nexted w S F L A cap bs semi mode rd errs (.returned (.tuple #[])) w' := by
  have e1 : nxCh bs rd = -1 := by unfold nxCh; rw [if_neg (by omega)]
  have e2 : nxOff bs rd = bs.length := by unfold nxOff; rw [if_neg (by omega)]
  have e3 : nxRd bs rd = rd := by unfold nxRd; rw [if_neg (by omega)]
  have e4 : nxErr bs rd = 0 := by unfold nxErr; rw [if_neg (by omega)]
  refine ⟨rfl, L', ⟨⟨lo, ?_⟩, hF, hsrc.keep ho ?_, ?_⟩, hL, ho⟩
  · rw [e1, e2, e3, e4, Int.add_zero]
    exact hS
  · intro hp a ha
    have := hap hp a ha
    simp [this]
  · intro hp a ha
    have := hap hp a ha
    refine ⟨this.1, this.2.1, ?_⟩
    rcases hL with rfl | h
    · exact this.2.2
    · obtain ⟨b, o, rfl, hc⟩ := hsrc.2.2 hp
      injection ha with ha
      subst ha
      have := World.block_lt_of_cell? w _ (hc 0 hp)
      simp only at this ⊢
      omega

set_option maxHeartbeats 2000000 in
set_option maxRecDepth 100000 in
theorem next_end (S F L : Nat) (A : Option Addr) (cap : Nat) (bs : List UInt8) (semi : Bool) (mode ch : Int) (off rd : Nat) (errs : Int) (w : World) (h : Scn w S F L A cap bs semi mode ch off rd errs)
    (hn : bs.length ≤ 2000000) (hr : bs.length ≤ rd) (hr2 : rd ≤ 2000000) (h0 : 0 ≤ errs) (h1 : errs < 4611686018427387904) :
    Calls Tryf.prog 34 #[.pointer (some ⟨S, 0, none⟩)] w (Nexted w S F L A cap bs semi mode rd errs) := by
  have hlt := h.lt
  obtain ⟨⟨lo, hS⟩, hF, hsrc, hap⟩ := h
  have s0 : w.cell? ⟨S, 0, none⟩ = some (.pointer (some ⟨F, 0, none⟩)) := hS.cellAt rfl
  have s1 : w.cell? ⟨S, 1, none⟩ = some (.slice A bs.length cap) := hS.cellAt rfl
  have s2 : w.cell? ⟨S, 2, none⟩ = some (.int .i32 ch) := hS.cellAt rfl
  have s3 : w.cell? ⟨S, 3, none⟩ = some (.int .i64 off) := hS.cellAt rfl
  have s4 : w.cell? ⟨S, 4, none⟩ = some (.int .i64 rd) := hS.cellAt rfl
  have s5 : w.cell? ⟨S, 5, none⟩ = some (.int .i64 lo) := hS.cellAt rfl
  have z2 : w.frozen? ⟨S, 2, none⟩ = false := hS.free 2
  have z3 : w.frozen? ⟨S, 3, none⟩ = false := hS.free 3
  have z5 : w.frozen? ⟨S, 5, none⟩ = false := hS.free 5
  have HS := Lib.hid hS
  have HF := Lib.hid hF
  have HA := Lib.hid hap
  have HR := Lib.hid hsrc
  clear hS hF hsrc hap
  have nd : decide ((rd : Int) < (bs.length : Int)) = false := decide_eq_false (by omega)
  by_cases hc : ch = 10
  · subst hc
    go_enter Tryf.func34, Tryf.ntmps34
    go_wp2_with fail
    go_quiet (fail)
    go_wp2_with fail
    obtain ⟨W, hW⟩ : ∃ W, ((w.drewN nq).setCell ⟨S, 3, none⟩ (.int .i64 bs.length)).setCell ⟨S, 5, none⟩ (.int .i64 bs.length) = W := ⟨_, rfl⟩
    rw [hW]
    have hS1 : Hold W S 54 (cellsOf F A bs.length cap semi mode 10 bs.length rd bs.length errs) := by
      rw [← hW]
      exact ((HS.out.draws nq).put 3 _).put 5 _
    have o1 : Only w W [S] := by
      rw [← hW]
      exact (((Only.refl w [S]).draws nq).put (.inl (by simp)) _).put (.inl (by simp)) _
    have HF1 := Lib.hid (HF.out.keep o1 (by simpa using Ne.symm hlt.2.2.2.1) (by simpa using Ne.symm hlt.2.2.2.2.1))
    clear hW s0 s1 s2 s3 s4 s5 z2 z3 z5
    have s0 : W.cell? ⟨S, 0, none⟩ = some (.pointer (some ⟨F, 0, none⟩)) := hS1.cellAt rfl
    have s3 : W.cell? ⟨S, 3, none⟩ = some (.int .i64 bs.length) := hS1.cellAt rfl
    have HS1 := Lib.hid hS1
    have O1 := Lib.hid o1
    clear hS1 o1
    go_still_tail 8, (by kernel_rfl)
    go_wp2_with fail
    refine (addLine_any F L bs.length bs.length W.drew HF1.out hn (Nat.le_refl _)).mono ?_
    rintro e w1 ⟨rfl, L1, hF2, hL1, o2⟩
    have hS2 : Hold w1 S 54 (cellsOf F A bs.length cap semi mode 10 bs.length rd bs.length errs) := o2.hold HS1.out (by simpa using ⟨hlt.2.2.2.1, hlt.2.2.2.2.1⟩)
    have t2 : w1.cell? ⟨S, 2, none⟩ = some (.int .i32 10) := hS2.cellAt rfl
    have y2 : w1.frozen? ⟨S, 2, none⟩ = false := hS2.free 2
    have HS2 := Lib.hid hS2
    have O2 := Lib.hid o2
    have HF2 := Lib.hid hF2
    have HL1 := Lib.hid hL1
    clear hS2 o2 hF2 hL1
    go_wp2_with fail
    go_end0
    refine nexted_end hr hlt HA.out HR.out (lo := bs.length) (HS2.out.put 2 _) (HF2.out.keep ((Only.refl w1 [S]).put (.inl (by simp)) _) ?_ ?_) ?_ ?_
    · simpa using Ne.symm hlt.2.2.2.1
    · have := O1.out.size
      rcases HL1.out with rfl | h
      · simpa using Ne.symm hlt.2.2.2.2.1
      · have h' : W.heap.size ≤ L1 := h
        simp
        omega
    · rcases HL1.out with h | h
      · exact .inl h
      · exact .inr (Nat.le_trans O1.out.size h)
    · exact (((O1.out.more (by simp)).draw).next O2.out (by simp)).put (.inl (by simp)) _
  · have hc' : ((ch : Int) == 10) = false := by simp [hc]
    go_enter Tryf.func34, Tryf.ntmps34
    go_wp2_with fail
    go_quiet (fail)
    go_wp2_with fail
    go_end0
    exact nexted_end hr hlt HA.out HR.out (lo := lo) (L' := L) (((HS.out.draws nq).put 3 _).put 2 _) (HF.out.keep (gs := [S]) (((Only.refl w [S]).draws nq).put (.inl (by simp)) _ |>.put (.inl (by simp)) _) (by simpa using Ne.symm hlt.2.2.2.1) (by simpa using Ne.symm hlt.2.2.2.2.1))
      (.inl rfl) ((((Only.refl w [S, F, L]).draws nq).put (.inl (by simp)) _).put (.inl (by simp)) _)
end Go.Proofs.YtpdfompeoceklaaFmt.Core
