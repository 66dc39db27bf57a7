/-
  Proved: NewFileSet, AddFile and NewScanner (no handler): the scanner stands at the first character, a leading byte order mark skipped.
  Conditions: at most 2000000 bytes of source; Go's utf8 tables as the row lists them.
-/
import Derived.Test.YtcaolpebjpilgaaFmtNextIn
namespace Go.Proofs.YtcaolpebjpilgaaFmt.Core
open Go.RowKit
set_option linter.unusedVariables false

theorem ptr_info : (Tryf.prog.info? 25).map (fun i => (i.zero, i.size, i.bytes)) = some (some (.pointer none), 1, 8) := by kernel_rfl

/-- What NewFileSet leaves. -/
theorem newFileSet_any (w : World) : Calls Tryf.prog 12 #[] w fun e w' => e = .returned (.pointer (some ⟨w.heap.size, 0, none⟩)) ∧
    w.alloc (.cells #[.int .i64 1, .slice none 0 0, .pointer none] 48) = w' := by
  go_enter Tryf.func12, Tryf.ntmps12
  go_wp2_with fail
  go_ret
  exact ⟨rfl, rfl⟩

/-- What AddFile leaves. -/
def Filed (w : World) (fset n : Nat) (e : Ending) (w' : World) : Prop :=
  ∃ F L, e = .returned (.pointer (some ⟨F, 0, none⟩)) ∧ Fil w' F L n ∧ w.heap.size ≤ F ∧ w.heap.size ≤ L ∧ Only w w' [fset]

theorem filed_world {w w1 : World} {fset : Nat} (h : Hold w fset 48 #[.int .i64 1, .slice none 0 0, .pointer none]) (nm : ByteArray) (n : Nat)
    (hg : ((((w.setCell ⟨fset, 0, none⟩ (.int .i64 (1 + (n + 1)))).alloc (.cells #[.int .i64 0] 3)).alloc (.cells #[.pointer (some ⟨fset, 0, none⟩), .string nm, .int .i64 1, .int .i64 n, .slice (some ⟨w.heap.size, 0, none⟩) 1 1] 51)).alloc
      (.cells #[.pointer (some ⟨w.heap.size + 1, 0, none⟩)] 25)).grownBy w1 (Value.slice none 0 0).ownBlock) :
    Hold w1 fset 48 #[.int .i64 (1 + (n + 1)), .slice none 0 0, .pointer none] ∧
    Hold w1 (w.heap.size + 1) 51 #[.pointer (some ⟨fset, 0, none⟩), .string nm, .int .i64 1, .int .i64 n, .slice (some ⟨w.heap.size, 0, none⟩) 1 1] ∧
    Hold w1 w.heap.size 3 #[.int .i64 0] ∧ Only w w1 [fset] := by
  have o0 : Only w (w.setCell ⟨fset, 0, none⟩ (.int .i64 (1 + (n + 1)))) [fset] := (Only.refl w [fset]).put (.inl (by simp)) _
  have e0 : (w.setCell ⟨fset, 0, none⟩ (.int .i64 (1 + (n + 1)))).heap.size = w.heap.size := by simp [World.setCell]
  have a0 : Hold (w.setCell ⟨fset, 0, none⟩ (.int .i64 (1 + (n + 1)))) fset 48 #[.int .i64 (1 + (n + 1)), .slice none 0 0, .pointer none] := h.put 0 _
  generalize w.setCell ⟨fset, 0, none⟩ (.int .i64 (1 + (n + 1))) = w0 at *
  have b1 := Hold.fresh w0 3 #[.int .i64 0]
  have e1 : (w0.alloc (.cells #[.int .i64 0] 3)).heap.size = w.heap.size + 1 := by simp [e0]
  rw [e0] at b1
  have a1 := a0.later (.cells #[.int .i64 0] 3)
  have o1 := o0.fresh (.cells #[.int .i64 0] 3)
  generalize w0.alloc (.cells #[.int .i64 0] 3) = w2 at *
  have c2 := Hold.fresh w2 51 #[.pointer (some ⟨fset, 0, none⟩), .string nm, .int .i64 1, .int .i64 n, .slice (some ⟨w.heap.size, 0, none⟩) 1 1]
  rw [e1] at c2
  have b2 := b1.later (.cells #[.pointer (some ⟨fset, 0, none⟩), .string nm, .int .i64 1, .int .i64 n, .slice (some ⟨w.heap.size, 0, none⟩) 1 1] 51)
  have a2 := a1.later (.cells #[.pointer (some ⟨fset, 0, none⟩), .string nm, .int .i64 1, .int .i64 n, .slice (some ⟨w.heap.size, 0, none⟩) 1 1] 51)
  have o2 := o1.fresh (.cells #[.pointer (some ⟨fset, 0, none⟩), .string nm, .int .i64 1, .int .i64 n, .slice (some ⟨w.heap.size, 0, none⟩) 1 1] 51)
  generalize w2.alloc (.cells #[.pointer (some ⟨fset, 0, none⟩), .string nm, .int .i64 1, .int .i64 n, .slice (some ⟨w.heap.size, 0, none⟩) 1 1] 51) = w3 at *
  have a3 := a2.later (.cells #[.pointer (some ⟨w.heap.size + 1, 0, none⟩)] 25)
  have b3 := b2.later (.cells #[.pointer (some ⟨w.heap.size + 1, 0, none⟩)] 25)
  have c3 := c2.later (.cells #[.pointer (some ⟨w.heap.size + 1, 0, none⟩)] 25)
  have o3 := o2.fresh (.cells #[.pointer (some ⟨w.heap.size + 1, 0, none⟩)] 25)
  have og := Only.ofGrown (gs := []) hg (by simp [Value.ownBlock])
  exact ⟨og.hold a3 (by simp), og.hold c3 (by simp), og.hold b3 (by simp), o3.next og (by simp)⟩

theorem filed_of {w w1 : World} {fset n : Nat} {nm : ByteArray} (hF : Hold w1 (w.heap.size + 1) 51 #[.pointer (some ⟨fset, 0, none⟩), .string nm, .int .i64 1, .int .i64 n, .slice (some ⟨w.heap.size, 0, none⟩) 1 1])
    (hL : Hold w1 w.heap.size 3 #[.int .i64 0]) (ho : Only w w1 [fset]) (hlt : fset < w.heap.size) (hn : n ≤ 2000000) (u v : Value) :
    Filed w fset n (.returned (.pointer (some ⟨w.heap.size + 1, 0, none⟩))) ((w1.setCell ⟨fset, 1, none⟩ u).setCell ⟨fset, 2, none⟩ v) := by
  have o2 : Only w1 ((w1.setCell ⟨fset, 1, none⟩ u).setCell ⟨fset, 2, none⟩ v) [fset] := ((Only.refl w1 [fset]).put (.inl (by simp)) _).put (.inl (by simp)) _
  refine ⟨w.heap.size + 1, w.heap.size, rfl, ?_, by omega, Nat.le_refl _, ho.next o2 (by simp)⟩
  have f : Fil w1 (w.heap.size + 1) w.heap.size n := by
    refine ⟨fset, nm, 1, 1, 1, [0], hF, ⟨rfl, .inr ⟨w.heap.size, 1, #[.int .i64 0], rfl, Nat.zero_le _, hL, Nat.le_refl _, by unfold maxLen; omega, rfl, rfl⟩⟩, rfl, Nat.le_refl _, ?_⟩
    intro i hi
    have : i = 0 := by omega
    subst this
    simp
  exact f.keep o2 (by simp; omega) (by simp; omega)

set_option maxHeartbeats 2000000 in
theorem addFile_any (fset n : Nat) (nm : ByteArray) (w : World) (h : Hold w fset 48 #[.int .i64 1, .slice none 0 0, .pointer none]) (hn : n ≤ 2000000) :
    Calls Tryf.prog 13 #[.pointer (some ⟨fset, 0, none⟩), .string nm, .int .i64 (-1), .int .i64 n] w (Filed w fset n) := by
  have f0 : w.cell? ⟨fset, 0, none⟩ = some (.int .i64 1) := h.cellAt rfl
  have f1 : w.cell? ⟨fset, 1, none⟩ = some (.slice none 0 0) := h.cellAt rfl
  have f2 : w.cell? ⟨fset, 2, none⟩ = some (.pointer none) := h.cellAt rfl
  have z0 : w.frozen? ⟨fset, 0, none⟩ = false := h.free 0
  have z1 : w.frozen? ⟨fset, 1, none⟩ = false := h.free 1
  have z2 : w.frozen? ⟨fset, 2, none⟩ = false := h.free 2
  have hlt := h.lt
  have H := Lib.hid h
  clear h
  have d0 : decide ((n : Int) < 0) = false := decide_eq_false (by omega)
  obtain ⟨i0, hi, hz0, hz1, hz2⟩ := info_parts ptr_info
  have HI := Lib.hid hi
  have HZ0 := Lib.hid hz0
  have HZ1 := Lib.hid hz1
  have HZ2 := Lib.hid hz2
  clear hi hz0 hz1 hz2
  go_enter Tryf.func13, Tryf.ntmps13
  go_wp2_with (at_builtin; refine wpList_append_own_at _ rfl _ _ 46 rfl 0 25 i0 (.pointer none) 1 8 Tryf.underlying46 HI.out HZ0.out HZ1.out HZ2.out rfl (by decide) (.slice none 0 0) 0 [] rfl ⟨rfl, .inl ⟨rfl, rfl⟩⟩ ⟨w.heap.size + 1 + 1, 0, none⟩ 1 1 [.pointer (some ⟨w.heap.size + 1, 0, none⟩)] rfl rfl ?c1 ?c2 ?c3 ?c4 ?c5 ?_)
  case c1 =>
    intro k u hu
    have h3 := Hold.fresh (((w.setCell ⟨fset, 0, none⟩ (.int .i64 (1 + (n + 1)))).alloc (.cells #[.int .i64 0] 3)).alloc (.cells #[.pointer (some ⟨fset, 0, none⟩), .string nm, .int .i64 1, .int .i64 n, .slice (some ⟨w.heap.size, 0, none⟩) 1 1] 51)) 25 #[.pointer (some ⟨w.heap.size + 1, 0, none⟩)]
    have e : (((w.setCell ⟨fset, 0, none⟩ (.int .i64 (1 + (n + 1)))).alloc (.cells #[.int .i64 0] 3)).alloc (.cells #[.pointer (some ⟨fset, 0, none⟩), .string nm, .int .i64 1, .int .i64 n, .slice (some ⟨w.heap.size, 0, none⟩) 1 1] 51)).heap.size = w.heap.size + 1 + 1 := by simp
    rw [e] at h3
    rw [add_plain]
    rw [h3.cell]
    simpa using hu
  case c2 => intro u hu; simp at hu; subst hu; rfl
  case c3 => unfold maxLen; omega
  case c4 => omega
  case c5 => exact Nat.zero_le _
  intro v' w1 hown' hgrow _ hat
  have hw1 := filed_world (w1 := w1) H.out nm n hgrow
  obtain ⟨hFS, hF, hL, hO⟩ := hw1
  have c1 : w1.cell? ⟨fset, 1, none⟩ = some (.slice none 0 0) := hFS.cellAt rfl
  have c2 : w1.cell? ⟨fset, 2, none⟩ = some (.pointer none) := hFS.cellAt rfl
  have y1 : w1.frozen? ⟨fset, 1, none⟩ = false := hFS.free 1
  have y2 : w1.frozen? ⟨fset, 2, none⟩ = false := hFS.free 2
  have hex : ∃ g cap, v' = .slice (some ⟨g, 0, none⟩) 1 cap := by
    rcases hown'.2 with ⟨_, e⟩ | ⟨g, cap, cur, e, _⟩
    · omega
    · exact ⟨g, cap, e⟩
  obtain ⟨g, cap, hv⟩ := hex
  rw [hv]
  have HFS := Lib.hid hFS
  have HF := Lib.hid hF
  have HL := Lib.hid hL
  have HO := Lib.hid hO
  clear hown' hgrow hat hv hFS hF hL hO f0 f1 f2 z0 z1 z2
  go_wp2_with fail
  go_ret
  exact filed_of HF.out HL.out HO.out hlt hn _ _

/-! ### The scanner at a character. -/
/-- It has read the character that begins at byte p (or stands at the end). -/
def At (w : World) (S F L : Nat) (A : Option Addr) (cap : Nat) (bs : List UInt8) (semi : Bool) (mode : Int) (p : Nat) (errs : Int) : Prop := Scn w S F L A cap bs semi mode (nxCh bs p) (nxOff bs p) (nxRd bs p) errs
theorem nxRd_le {bs : List UInt8} {p : Nat} (h : p ≤ bs.length) : nxRd bs p ≤ bs.length := by
  unfold nxRd
  split
  · have := dec_width bs (i := p) (by omega)
    omega
  · exact h
theorem nxErr_01 (bs : List UInt8) (p : Nat) : 0 ≤ nxErr bs p ∧ nxErr bs p ≤ 1 := by
  unfold nxErr
  split <;> omega

/-- What a step of the scanner leaves. -/
def Moved (w : World) (S F L : Nat) (A : Option Addr) (cap : Nat) (bs : List UInt8) (semi : Bool) (mode : Int) (p : Nat) (errs : Int) (e : Ending) (w' : World) : Prop :=
  e = .returned (.tuple #[]) ∧ ∃ L', At w' S F L' A cap bs semi mode p errs ∧ (L' = L ∨ w.heap.size ≤ L') ∧ Only w w' [S, F, L]

/-- (*Scanner).next, from character to character. -/
theorem next_at (S F L : Nat) (A : Option Addr) (cap : Nat) (bs : List UInt8) (semi : Bool) (mode : Int) (p : Nat) (errs : Int) (w : World) (h : At w S F L A cap bs semi mode p errs)
    (hn : bs.length ≤ 2000000) (hp : p ≤ bs.length) (h0 : 0 ≤ errs) (h1 : errs < 4611686018427387904) (hT : Lib.Utf8Tabs 0 1 w) (hg : 0 ∉ [S, F, L] ∧ 1 ∉ [S, F, L]) :
    Calls Tryf.prog 35 #[.pointer (some ⟨S, 0, none⟩)] w (Moved w S F L A cap bs semi mode (nxRd bs p) (errs + nxErr bs (nxRd bs p))) :=
  next_any S F L A cap bs semi mode _ _ _ errs w h hn (Nat.le_trans (nxRd_le hp) hn) h0 h1 hT hg

/-- Where the first character stands: behind a leading byte order mark. -/
def bom (bs : List UInt8) : Nat := if 0 < bs.length ∧ (dec bs 0).1 = 65279 then (dec bs 0).2 else 0
theorem bom_le (bs : List UInt8) : bom bs ≤ bs.length := by
  unfold bom
  split
  · rename_i h
    have := dec_width bs (i := 0) h.1
    omega
  · omega

/-- What NewScanner leaves. -/
def Newed (w : World) (F L : Nat) (A : Option Addr) (cap : Nat) (bs : List UInt8) (mode : Int) (e : Ending) (w' : World) : Prop :=
  ∃ S L', e = .returned (.pointer (some ⟨S, 0, none⟩)) ∧ At w' S F L' A cap bs false mode (bom bs) (nxErr bs (bom bs)) ∧ w.heap.size ≤ S ∧ (L' = L ∨ w.heap.size ≤ L') ∧ Only w w' [F, L]

set_option maxHeartbeats 2000000 in
theorem newScanner_any (F L : Nat) (A : Option Addr) (cap : Nat) (bs : List UInt8) (mode : Int) (w : World) (hF : Fil w F L bs.length) (hs : Src w A cap bs) (hA : 0 < bs.length → ∀ a, A = some a → a.block ≠ F ∧ a.block ≠ L)
    (hn : bs.length ≤ 2000000) (hT : Lib.Utf8Tabs 0 1 w) (hg : 0 ∉ [F, L] ∧ 1 ∉ [F, L]) :
    Calls Tryf.prog 14 #[.pointer (some ⟨F, 0, none⟩), .slice A bs.length cap, .nilFunc, .int .i64 mode] w (Newed w F L A cap bs mode) := by
  have f3 : w.cell? ⟨F, 3, none⟩ = some (.int .i64 bs.length) := by
    obtain ⟨fs, nm, bse, k, c, xs, h1, _⟩ := hF
    exact h1.cellAt rfl
  have hlt := hF.lt
  have hg0 : 0 < w.heap.size := World.block_lt_of_cell? w _ (hT.1 0 (by omega))
  have hg1 : 1 < w.heap.size := World.block_lt_of_cell? w _ (hT.2 0 (by omega)).1
  have hS : Scn (w.alloc (.cells (cellsOf F A bs.length cap false mode 32 0 0 0 0) 56)) w.heap.size F L A cap bs false mode 32 0 0 0 := by
    have o : Only w (w.alloc (.cells (cellsOf F A bs.length cap false mode 32 0 0 0 0) 56)) [] := (Only.refl w []).fresh _
    refine ⟨⟨0, Hold.fresh w _ _⟩, hF.keep o (by simp) (by simp), hs.keep o (by simp), fun hp a ha => ?_⟩
    obtain ⟨b, o', rfl, hc⟩ := hs.2.2 hp
    have := World.block_lt_of_cell? w _ (hc 0 hp)
    have h2 := hA hp _ ha
    injection ha with ha
    subst ha
    simp only at this ⊢
    exact ⟨by omega, h2.1, h2.2⟩
  have hg' : 0 ∉ [w.heap.size, F, L] ∧ 1 ∉ [w.heap.size, F, L] := by
    simp at hg ⊢
    omega
  have c1 := Lib.hid (next_any w.heap.size F L A cap bs false mode 32 0 0 0 _ hS hn (by omega) (by omega) (by omega) (tabs_keep hT ((Only.refl w []).fresh _) (by simp) (by simp)) hg')
  have HT := Lib.hid hT
  have HF := Lib.hid hF
  have HS := Lib.hid hs
  have HA := Lib.hid hA
  clear hF hs hA hT hS
  have nn : ((bs.length : Int) != (bs.length : Int)) = false := by simp
  go_enter Tryf.func14, Tryf.ntmps14
  go_wp2_with fail
  refine c1.out.mono ?_
  rintro e w1 ⟨rfl, L1, hA1, hL1, o1⟩
  have o2 : Only w w1 [F, L] := ((Only.refl w [F, L]).fresh _).next o1 (by simp)
  have h2 : w1.cell? ⟨w.heap.size, 2, none⟩ = some (.int .i32 (nxCh bs 0)) := by
    obtain ⟨⟨lo, hh⟩, _⟩ := hA1
    exact hh.cellAt rfl
  have hL2 : L1 = L ∨ w.heap.size ≤ L1 := by
    rcases hL1 with h | h
    · exact .inl h
    · exact .inr (by simp at h; omega)
  have HA1 := Lib.hid hA1
  have O2 := Lib.hid o2
  have HL2 := Lib.hid hL2
  clear hA1 hL1 o1 o2 hL2 c1
  by_cases hb : nxCh bs 0 = 65279
  · have hpos : 0 < bs.length := by
      unfold nxCh at hb
      split at hb
      · assumption
      · omega
    have hd : (dec bs 0).1 = 65279 := by
      unfold nxCh at hb
      rw [if_pos hpos] at hb
      omega
    have e1 : bom bs = (dec bs 0).2 := by unfold bom; rw [if_pos ⟨hpos, hd⟩]
    have e2 : nxRd bs 0 = bom bs := by unfold nxRd; rw [if_pos hpos, e1]; omega
    have e3 : nxErr bs 0 = 0 := nxErr_no (by unfold bad; rw [hd]; simp)
    rw [hb] at h2
    have hA2 := HA1.out
    rw [e2, e3] at hA2
    have hw := dec_width bs hpos
    have c2 := Lib.hid (next_any w.heap.size F L1 A cap bs false mode _ _ _ _ w1 hA2 hn (Nat.le_trans (bom_le bs) hn) (by omega) (by omega) (tabs_keep HT.out O2.out hg.1 hg.2) (by
      rcases HL2.out with h | h
      · rw [h]; exact hg'
      · simp at hg ⊢
        omega))
    clear hA2 hb hd e1 e2 e3
    go_wp2_with fail
    refine c2.out.mono ?_
    rintro e w2 ⟨rfl, L2, hA3, hL3, o3⟩
    clear h2
    go_wp2_with fail
    go_ret
    refine ⟨w.heap.size, L2, rfl, ?_, Nat.le_refl _, ?_, O2.out.next o3 ?_⟩
    · have h := hA3
      simp only [Int.zero_add, Int.add_zero] at h
      exact h
    · rcases hL3 with h | h
      · rw [h]; exact HL2.out
      · exact .inr (Nat.le_trans O2.out.size h)
    · intro x hx
      simp at hx
      rcases hx with rfl | rfl | rfl
      · exact .inr (Nat.le_refl _)
      · exact .inl (by simp)
      · rcases HL2.out with h | h
        · rw [h]; exact .inl (by simp)
        · exact .inr h
  · have hb' : ((nxCh bs 0 : Int) == 65279) = false := by simp [hb]
    have e1 : bom bs = 0 := by
      unfold bom
      rw [if_neg]
      rintro ⟨h, h'⟩
      apply hb
      unfold nxCh
      rw [if_pos h, h']
      rfl
    have E1 := Lib.hid e1
    clear e1
    go_wp2_with fail
    go_ret
    refine ⟨w.heap.size, L1, rfl, ?_, Nat.le_refl _, HL2.out, O2.out⟩
    rw [E1.out]
    have h := HA1.out
    rw [Int.zero_add] at h
    exact h
end Go.Proofs.YtcaolpebjpilgaaFmt.Core
