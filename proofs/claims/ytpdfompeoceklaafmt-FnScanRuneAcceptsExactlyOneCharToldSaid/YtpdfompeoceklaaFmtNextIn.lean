/-
  Proved: (*Scanner).next inside the text, and next_any: the contract for every state.
  Conditions: at most 2000000 bytes of source; fewer than 2^62 errors so far; Go's utf8 tables as the row lists them.
-/
import Derived.Test.YtpdfompeoceklaaFmtNext
import Derived.Deep.RegionHeld3
namespace Go.Proofs.YtpdfompeoceklaaFmt.Core
open Go.RowKit
set_option linter.unusedVariables false

theorem tabs_keep {g3 g4 : Nat} {w w' : World} {gs : List Nat} (h : Lib.Utf8Tabs g3 g4 w) (ho : Only w w' gs) (h3 : g3 ∉ gs) (h4 : g4 ∉ gs) : Lib.Utf8Tabs g3 g4 w' := by
  obtain ⟨a, b⟩ := h
  exact ⟨fun i hi => ho.cell (a i hi) h3, fun i hi => ⟨ho.cell (b i hi).1 h4, ho.cell (b i hi).2 h4⟩⟩
theorem nxErr_yes {bs : List UInt8} {rd : Nat} (hr : rd < bs.length) (h : bad bs rd) : nxErr bs rd = 1 := by unfold nxErr; rw [if_pos ⟨hr, h⟩]
theorem nxErr_no {bs : List UInt8} {rd : Nat} (h : ¬ bad bs rd) : nxErr bs rd = 0 := by unfold nxErr; rw [if_neg (fun k => h k.2)]

theorem nexted_in {w X w' : World} {S F L L1 : Nat} {A : Option Addr} {cap : Nat} {bs : List UInt8} {semi : Bool} {mode : Int} {rd : Nat} {errs lo : Int} (hr : rd < bs.length)
    (hlt : S < w.heap.size ∧ F < w.heap.size ∧ L < w.heap.size ∧ S ≠ F ∧ S ≠ L ∧ F ≠ L) (hap : 0 < bs.length → ∀ a, A = some a → a.block ≠ S ∧ a.block ≠ F ∧ a.block ≠ L) (hsrc : Src w A cap bs)
    (hF : Fil X F L1 bs.length) (hL : L1 = L ∨ w.heap.size ≤ L1) (ho : Only w X [S, F, L]) (hx : Only X w' [S])
    (hS : Hold w' S 54 (cellsOf F A bs.length cap semi mode (dec bs rd).1 rd (rd + (dec bs rd).2 : Nat) lo (errs + nxErr bs rd))) :
    Nexted w S F L A cap bs semi mode rd errs (.returned (.tuple #[])) w' := by
  have e1 : nxCh bs rd = (dec bs rd).1 := by unfold nxCh; rw [if_pos hr]
  have e2 : nxOff bs rd = rd := by unfold nxOff; rw [if_pos hr]
  have e3 : nxRd bs rd = rd + (dec bs rd).2 := by unfold nxRd; rw [if_pos hr]
  have ho' : Only w w' [S, F, L] := ho.next hx (by simp)
  have hS1 : L1 ≠ S := by
    rcases hL with rfl | h
    · exact Ne.symm hlt.2.2.2.2.1
    · omega
  refine ⟨rfl, L1, ⟨⟨lo, ?_⟩, hF.keep hx (by simpa using Ne.symm hlt.2.2.2.1) (by simpa using hS1), hsrc.keep ho' ?_, ?_⟩, hL, ho'⟩
  · rw [e1, e2, e3]
    exact hS
  · intro hp a ha
    have := hap hp a ha
    simp [this]
  · intro hp a ha
    have := hap hp a ha
    refine ⟨this.1, this.2.1, ?_⟩
    rcases hL with rfl | h
    · exact this.2.2
    · obtain ⟨b, o, rfl, hc⟩ := hsrc.2.2 hp
      injection ha with ha
      subst ha
      have := World.block_lt_of_cell? w _ (hc 0 hp)
      simp only at this ⊢
      omega

/-- The last two stores of next: the cells behind them. -/
theorem last_cells {X : World} {S F : Nat} {A : Option Addr} {n cap : Nat} {semi : Bool} {mode ch off rd lo errs : Int} (h : Hold X S 54 (cellsOf F A n cap semi mode ch off rd lo errs)) (r' c' : Int) :
    Hold ((X.setCell ⟨S, 4, none⟩ (.int .i64 r')).setCell ⟨S, 2, none⟩ (.int .i32 c')) S 54 (cellsOf F A n cap semi mode c' off r' lo errs) := (h.put 4 _).put 2 _
theorem err_cells {X : World} {S F : Nat} {A : Option Addr} {n cap : Nat} {semi : Bool} {mode ch off rd lo errs : Int} (h : Hold X S 54 (cellsOf F A n cap semi mode ch off rd lo errs)) (e' : Int) :
    Hold (X.setCell ⟨S, 8, none⟩ (.int .i64 e')) S 54 (cellsOf F A n cap semi mode ch off rd lo e') := h.put 8 _
theorem only_last (X : World) (S : Nat) (u v : Value) : Only X ((X.setCell ⟨S, 4, none⟩ u).setCell ⟨S, 2, none⟩ v) [S] :=
  ((Only.refl X [S]).put (p := ⟨S, 4, none⟩) (.inl (by simp)) _).put (p := ⟨S, 2, none⟩) (.inl (by simp)) _
theorem only_err (X : World) (S : Nat) (u : Value) : Only X (X.setCell ⟨S, 8, none⟩ u) [S] := (Only.refl X [S]).put (p := ⟨S, 8, none⟩) (.inl (by simp)) _

set_option maxHeartbeats 4000000 in
set_option maxRecDepth 100000 in
theorem next_asc (S F L : Nat) (A : Option Addr) (cap : Nat) (bs : List UInt8) (semi : Bool) (mode ch : Int) (off rd : Nat) (errs : Int) (w : World) (h : Scn w S F L A cap bs semi mode ch off rd errs)
    (hn : bs.length ≤ 2000000) (hr : rd < bs.length) (h0 : 0 ≤ errs) (h1 : errs < 4611686018427387904) (hx : bt bs rd < 128) (hx0 : bt bs rd ≠ 0) (hc : ch ≠ 10) :
    Calls Tryf.prog 34 #[.pointer (some ⟨S, 0, none⟩)] w (Nexted w S F L A cap bs semi mode rd errs) := by
  have hlt := h.lt
  obtain ⟨⟨lo, hS⟩, hF, hsrc, hap⟩ := h
  obtain ⟨b, o, rfl, hcell⟩ := hsrc.2.2 (by omega)
  have hbS := (hap (by omega) _ rfl)
  have hcx := hcell rd hr
  have hcap := hsrc.1
  have hcap2 := hsrc.2.1
  unfold maxLen at hcap2
  have HC := Lib.hid hcell
  clear hcell
  have hd := dec_ascii bs hx
  have HE := Lib.hid (nxErr_no (bs := bs) (rd := rd) (by unfold bad; rw [hd]; simp only; omega))
  have HD := Lib.hid hd
  clear hd
  generalize hxx : bt bs rd = x at *
  have HX := Lib.hid hxx
  clear hxx
  have q0 : ((x : Int) == 0) = false := by simp; omega
  have s1 : w.cell? ⟨S, 1, none⟩ = some (.slice (some ⟨b, o, none⟩) bs.length cap) := hS.cellAt rfl
  have s2 : w.cell? ⟨S, 2, none⟩ = some (.int .i32 ch) := hS.cellAt rfl
  have s3 : w.cell? ⟨S, 3, none⟩ = some (.int .i64 off) := hS.cellAt rfl
  have s4 : w.cell? ⟨S, 4, none⟩ = some (.int .i64 rd) := hS.cellAt rfl
  have s5 : w.cell? ⟨S, 5, none⟩ = some (.int .i64 lo) := hS.cellAt rfl
  have z3 : w.frozen? ⟨S, 3, none⟩ = false := hS.free 3
  have z5 : w.frozen? ⟨S, 5, none⟩ = false := hS.free 5
  have HS := Lib.hid hS
  have HF := Lib.hid hF
  have HA := Lib.hid hap
  have HR := Lib.hid hsrc
  clear hS hF hsrc hap
  have nd : decide ((rd : Int) < (bs.length : Int)) = true := decide_eq_true (by omega)
  have hc' : ((ch : Int) == 10) = false := by simp [hc]
  go_enter Tryf.func34, Tryf.ntmps34
  go_wp2_with fail
  go_quiet (fail)
  go_wp2_with fail
  obtain ⟨X, hW⟩ : ∃ W, (w.drewN nq).setCell ⟨S, 3, none⟩ (.int .i64 rd) = W := ⟨_, rfl⟩
  rw [hW]
  have hS2 : Hold X S 54 (cellsOf F (some ⟨b, o, none⟩) bs.length cap semi mode ch rd rd lo errs) := by
    rw [← hW]
    exact (HS.out.draws nq).put 3 _
  have o1 : Only w X [S] := by
    rw [← hW]
    exact ((Only.refl w [S]).draws nq).put (.inl (by simp)) _
  have HFX := Lib.hid (HF.out.keep o1 (by simpa using Ne.symm hlt.2.2.2.1) (by simpa using Ne.symm hlt.2.2.2.2.1))
  have OX := Lib.hid (o1.more (hs := [S, F, L]) (by simp))
  clear hW s1 s2 s3 s4 s5 z3 z5 o1 HF HS
  have x1 : X.cell? ⟨S, 1, none⟩ = some (.slice (some ⟨b, o, none⟩) bs.length cap) := hS2.cellAt rfl
  have x2 := hS2.cellAt (i := 2) rfl
  have x3 : X.cell? ⟨S, 3, none⟩ = some (.int .i64 rd) := hS2.cellAt rfl
  have x4 : X.cell? ⟨S, 4, none⟩ = some (.int .i64 rd) := hS2.cellAt rfl
  have y2 : X.frozen? ⟨S, 2, none⟩ = false := hS2.free 2
  have y4 : X.frozen? ⟨S, 4, none⟩ = false := hS2.free 4
  have HSX := Lib.hid hS2
  clear hS2
  replace hcx := OX.out.cell hcx (by simpa using hbS)
  clear hbS
  go_quiet (fail)
  go_wp2_with fail
  go_end0
  refine nexted_in (lo := lo) hr hlt HA.out HR.out HFX.out (.inl rfl) OX.out ((Only.refl X [S]).draws _ |>.next (only_last _ S _ _) (by simp)) ?_
  rw [HE.out, HD.out, Int.add_zero]
  exact last_cells (HSX.out.draws _) _ _
set_option maxHeartbeats 4000000 in
set_option maxRecDepth 100000 in
theorem next_asc10 (S F L : Nat) (A : Option Addr) (cap : Nat) (bs : List UInt8) (semi : Bool) (mode ch : Int) (off rd : Nat) (errs : Int) (w : World) (h : Scn w S F L A cap bs semi mode ch off rd errs)
    (hn : bs.length ≤ 2000000) (hr : rd < bs.length) (h0 : 0 ≤ errs) (h1 : errs < 4611686018427387904) (hx : bt bs rd < 128) (hx0 : bt bs rd ≠ 0) (hc : ch = 10) :
    Calls Tryf.prog 34 #[.pointer (some ⟨S, 0, none⟩)] w (Nexted w S F L A cap bs semi mode rd errs) := by
  have hlt := h.lt
  obtain ⟨⟨lo, hS⟩, hF, hsrc, hap⟩ := h
  obtain ⟨b, o, rfl, hcell⟩ := hsrc.2.2 (by omega)
  have hbS := (hap (by omega) _ rfl)
  have hcx := hcell rd hr
  have hcap := hsrc.1
  have hcap2 := hsrc.2.1
  unfold maxLen at hcap2
  have HC := Lib.hid hcell
  clear hcell
  have hd := dec_ascii bs hx
  have HE := Lib.hid (nxErr_no (bs := bs) (rd := rd) (by unfold bad; rw [hd]; simp only; omega))
  have HD := Lib.hid hd
  clear hd
  generalize hxx : bt bs rd = x at *
  have HX := Lib.hid hxx
  clear hxx
  have q0 : ((x : Int) == 0) = false := by simp; omega
  have s1 : w.cell? ⟨S, 1, none⟩ = some (.slice (some ⟨b, o, none⟩) bs.length cap) := hS.cellAt rfl
  have s2 : w.cell? ⟨S, 2, none⟩ = some (.int .i32 ch) := hS.cellAt rfl
  have s3 : w.cell? ⟨S, 3, none⟩ = some (.int .i64 off) := hS.cellAt rfl
  have s4 : w.cell? ⟨S, 4, none⟩ = some (.int .i64 rd) := hS.cellAt rfl
  have s5 : w.cell? ⟨S, 5, none⟩ = some (.int .i64 lo) := hS.cellAt rfl
  have z3 : w.frozen? ⟨S, 3, none⟩ = false := hS.free 3
  have z5 : w.frozen? ⟨S, 5, none⟩ = false := hS.free 5
  have HS := Lib.hid hS
  have HF := Lib.hid hF
  have HA := Lib.hid hap
  have HR := Lib.hid hsrc
  clear hS hF hsrc hap
  have nd : decide ((rd : Int) < (bs.length : Int)) = true := decide_eq_true (by omega)
  subst hc
  go_enter Tryf.func34, Tryf.ntmps34
  go_wp2_with fail
  go_quiet (fail)
  go_wp2_with fail
  obtain ⟨W, hW⟩ : ∃ W, ((w.drewN nq).setCell ⟨S, 3, none⟩ (.int .i64 rd)).setCell ⟨S, 5, none⟩ (.int .i64 rd) = W := ⟨_, rfl⟩
  rw [hW]
  have hS1 : Hold W S 54 (cellsOf F (some ⟨b, o, none⟩) bs.length cap semi mode 10 rd rd rd errs) := by
    rw [← hW]
    exact ((HS.out.draws nq).put 3 _).put 5 _
  have o1 : Only w W [S] := by
    rw [← hW]
    exact (((Only.refl w [S]).draws nq).put (.inl (by simp)) _).put (.inl (by simp)) _
  have HF1 := Lib.hid (HF.out.keep o1 (by simpa using Ne.symm hlt.2.2.2.1) (by simpa using Ne.symm hlt.2.2.2.2.1))
  clear hW s1 s2 s3 s4 s5 z3 z5
  have s0 : W.cell? ⟨S, 0, none⟩ = some (.pointer (some ⟨F, 0, none⟩)) := hS1.cellAt rfl
  have s3 : W.cell? ⟨S, 3, none⟩ = some (.int .i64 rd) := hS1.cellAt rfl
  have HS1 := Lib.hid hS1
  have O1 := Lib.hid o1
  clear hS1 o1
  go_still_tail 8, (by kernel_rfl)
  go_wp2_with fail
  refine (addLine_any F L bs.length rd W.drew HF1.out hn (by omega)).mono ?_
  rintro e X ⟨rfl, L1, hF2, hL1, o2⟩
  have hS2 : Hold X S 54 (cellsOf F (some ⟨b, o, none⟩) bs.length cap semi mode 10 rd rd rd errs) := o2.hold HS1.out (by simpa using ⟨hlt.2.2.2.1, hlt.2.2.2.2.1⟩)
  have OX := Lib.hid (((O1.out.more (hs := [S, F, L]) (by simp)).draw).next o2 (by simp))
  have HL : Hid (L1 = L ∨ w.heap.size ≤ L1) := by
    rcases hL1 with h | h
    · exact .inl h
    · exact .inr (Nat.le_trans O1.out.size h)
  have HFX := Lib.hid hF2
  clear hF2 hL1 o2 HF1 s0 s3 O1 HS1 HF HS
  go_wp2_with fail
  have x1 : X.cell? ⟨S, 1, none⟩ = some (.slice (some ⟨b, o, none⟩) bs.length cap) := hS2.cellAt rfl
  have x2 := hS2.cellAt (i := 2) rfl
  have x3 : X.cell? ⟨S, 3, none⟩ = some (.int .i64 rd) := hS2.cellAt rfl
  have x4 : X.cell? ⟨S, 4, none⟩ = some (.int .i64 rd) := hS2.cellAt rfl
  have y2 : X.frozen? ⟨S, 2, none⟩ = false := hS2.free 2
  have y4 : X.frozen? ⟨S, 4, none⟩ = false := hS2.free 4
  have HSX := Lib.hid hS2
  clear hS2
  replace hcx := OX.out.cell hcx (by simpa using hbS)
  clear hbS
  go_quiet (fail)
  go_wp2_with fail
  go_end0
  refine nexted_in (lo := rd) hr hlt HA.out HR.out HFX.out HL.out OX.out ((Only.refl X [S]).draws _ |>.next (only_last _ S _ _) (by simp)) ?_
  rw [HE.out, HD.out, Int.add_zero]
  exact last_cells (HSX.out.draws _) _ _
set_option maxHeartbeats 4000000 in
set_option maxRecDepth 100000 in
theorem next_nul (S F L : Nat) (A : Option Addr) (cap : Nat) (bs : List UInt8) (semi : Bool) (mode ch : Int) (off rd : Nat) (errs : Int) (w : World) (h : Scn w S F L A cap bs semi mode ch off rd errs)
    (hn : bs.length ≤ 2000000) (hr : rd < bs.length) (h0 : 0 ≤ errs) (h1 : errs < 4611686018427387904) (hx : bt bs rd < 128) (hx0 : bt bs rd = 0) (hc : ch ≠ 10) :
    Calls Tryf.prog 34 #[.pointer (some ⟨S, 0, none⟩)] w (Nexted w S F L A cap bs semi mode rd errs) := by
  have hlt := h.lt
  obtain ⟨⟨lo, hS⟩, hF, hsrc, hap⟩ := h
  obtain ⟨b, o, rfl, hcell⟩ := hsrc.2.2 (by omega)
  have hbS := (hap (by omega) _ rfl)
  have hcx := hcell rd hr
  have hcap := hsrc.1
  have hcap2 := hsrc.2.1
  unfold maxLen at hcap2
  have HC := Lib.hid hcell
  clear hcell
  have hd := dec_ascii bs hx
  have HE := Lib.hid (nxErr_yes hr (by unfold bad; rw [hd]; simp only; omega))
  have HD := Lib.hid hd
  clear hd
  generalize hxx : bt bs rd = x at *
  have HX := Lib.hid hxx
  clear hxx
  subst hx0
  have s1 : w.cell? ⟨S, 1, none⟩ = some (.slice (some ⟨b, o, none⟩) bs.length cap) := hS.cellAt rfl
  have s2 : w.cell? ⟨S, 2, none⟩ = some (.int .i32 ch) := hS.cellAt rfl
  have s3 : w.cell? ⟨S, 3, none⟩ = some (.int .i64 off) := hS.cellAt rfl
  have s4 : w.cell? ⟨S, 4, none⟩ = some (.int .i64 rd) := hS.cellAt rfl
  have s5 : w.cell? ⟨S, 5, none⟩ = some (.int .i64 lo) := hS.cellAt rfl
  have z3 : w.frozen? ⟨S, 3, none⟩ = false := hS.free 3
  have z5 : w.frozen? ⟨S, 5, none⟩ = false := hS.free 5
  have HS := Lib.hid hS
  have HF := Lib.hid hF
  have HA := Lib.hid hap
  have HR := Lib.hid hsrc
  clear hS hF hsrc hap
  have nd : decide ((rd : Int) < (bs.length : Int)) = true := decide_eq_true (by omega)
  have hc' : ((ch : Int) == 10) = false := by simp [hc]
  go_enter Tryf.func34, Tryf.ntmps34
  go_wp2_with fail
  go_quiet (fail)
  go_wp2_with fail
  obtain ⟨X, hW⟩ : ∃ W, (w.drewN nq).setCell ⟨S, 3, none⟩ (.int .i64 rd) = W := ⟨_, rfl⟩
  rw [hW]
  have hS2 : Hold X S 54 (cellsOf F (some ⟨b, o, none⟩) bs.length cap semi mode ch rd rd lo errs) := by
    rw [← hW]
    exact (HS.out.draws nq).put 3 _
  have o1 : Only w X [S] := by
    rw [← hW]
    exact ((Only.refl w [S]).draws nq).put (.inl (by simp)) _
  have HFX := Lib.hid (HF.out.keep o1 (by simpa using Ne.symm hlt.2.2.2.1) (by simpa using Ne.symm hlt.2.2.2.2.1))
  have OX := Lib.hid (o1.more (hs := [S, F, L]) (by simp))
  clear hW s1 s2 s3 s4 s5 z3 z5 o1 HF HS
  have x1 : X.cell? ⟨S, 1, none⟩ = some (.slice (some ⟨b, o, none⟩) bs.length cap) := hS2.cellAt rfl
  have x2 := hS2.cellAt (i := 2) rfl
  have x3 : X.cell? ⟨S, 3, none⟩ = some (.int .i64 rd) := hS2.cellAt rfl
  have x4 : X.cell? ⟨S, 4, none⟩ = some (.int .i64 rd) := hS2.cellAt rfl
  have y2 : X.frozen? ⟨S, 2, none⟩ = false := hS2.free 2
  have y4 : X.frozen? ⟨S, 4, none⟩ = false := hS2.free 4
  have HSX := Lib.hid hS2
  clear hS2
  replace hcx := OX.out.cell hcx (by simpa using hbS)
  clear hbS
  go_quiet (fail)
  go_wp2_with fail
  refine (error_any S _ _ _ _ _ _ _ _ errs _ _ (X.drewN nq) HSX.out h0 h1).mono ?_
  rintro e w1 ⟨rfl, rfl⟩
  go_wp2_with fail
  go_end0
  refine nexted_in (lo := lo) hr hlt HA.out HR.out HFX.out (.inl rfl) OX.out (((Only.refl X [S]).draws _ |>.next (only_err _ S _) (by simp)).next (only_last _ S _ _) (by simp)) ?_
  rw [HE.out, HD.out]
  exact last_cells (err_cells (HSX.out.draws _) _) _ _
set_option maxHeartbeats 4000000 in
set_option maxRecDepth 100000 in
theorem next_nul10 (S F L : Nat) (A : Option Addr) (cap : Nat) (bs : List UInt8) (semi : Bool) (mode ch : Int) (off rd : Nat) (errs : Int) (w : World) (h : Scn w S F L A cap bs semi mode ch off rd errs)
    (hn : bs.length ≤ 2000000) (hr : rd < bs.length) (h0 : 0 ≤ errs) (h1 : errs < 4611686018427387904) (hx : bt bs rd < 128) (hx0 : bt bs rd = 0) (hc : ch = 10) :
    Calls Tryf.prog 34 #[.pointer (some ⟨S, 0, none⟩)] w (Nexted w S F L A cap bs semi mode rd errs) := by
  have hlt := h.lt
  obtain ⟨⟨lo, hS⟩, hF, hsrc, hap⟩ := h
  obtain ⟨b, o, rfl, hcell⟩ := hsrc.2.2 (by omega)
  have hbS := (hap (by omega) _ rfl)
  have hcx := hcell rd hr
  have hcap := hsrc.1
  have hcap2 := hsrc.2.1
  unfold maxLen at hcap2
  have HC := Lib.hid hcell
  clear hcell
  have hd := dec_ascii bs hx
  have HE := Lib.hid (nxErr_yes hr (by unfold bad; rw [hd]; simp only; omega))
  have HD := Lib.hid hd
  clear hd
  generalize hxx : bt bs rd = x at *
  have HX := Lib.hid hxx
  clear hxx
  subst hx0
  have s1 : w.cell? ⟨S, 1, none⟩ = some (.slice (some ⟨b, o, none⟩) bs.length cap) := hS.cellAt rfl
  have s2 : w.cell? ⟨S, 2, none⟩ = some (.int .i32 ch) := hS.cellAt rfl
  have s3 : w.cell? ⟨S, 3, none⟩ = some (.int .i64 off) := hS.cellAt rfl
  have s4 : w.cell? ⟨S, 4, none⟩ = some (.int .i64 rd) := hS.cellAt rfl
  have s5 : w.cell? ⟨S, 5, none⟩ = some (.int .i64 lo) := hS.cellAt rfl
  have z3 : w.frozen? ⟨S, 3, none⟩ = false := hS.free 3
  have z5 : w.frozen? ⟨S, 5, none⟩ = false := hS.free 5
  have HS := Lib.hid hS
  have HF := Lib.hid hF
  have HA := Lib.hid hap
  have HR := Lib.hid hsrc
  clear hS hF hsrc hap
  have nd : decide ((rd : Int) < (bs.length : Int)) = true := decide_eq_true (by omega)
  subst hc
  go_enter Tryf.func34, Tryf.ntmps34
  go_wp2_with fail
  go_quiet (fail)
  go_wp2_with fail
  obtain ⟨W, hW⟩ : ∃ W, ((w.drewN nq).setCell ⟨S, 3, none⟩ (.int .i64 rd)).setCell ⟨S, 5, none⟩ (.int .i64 rd) = W := ⟨_, rfl⟩
  rw [hW]
  have hS1 : Hold W S 54 (cellsOf F (some ⟨b, o, none⟩) bs.length cap semi mode 10 rd rd rd errs) := by
    rw [← hW]
    exact ((HS.out.draws nq).put 3 _).put 5 _
  have o1 : Only w W [S] := by
    rw [← hW]
    exact (((Only.refl w [S]).draws nq).put (.inl (by simp)) _).put (.inl (by simp)) _
  have HF1 := Lib.hid (HF.out.keep o1 (by simpa using Ne.symm hlt.2.2.2.1) (by simpa using Ne.symm hlt.2.2.2.2.1))
  clear hW s1 s2 s3 s4 s5 z3 z5
  have s0 : W.cell? ⟨S, 0, none⟩ = some (.pointer (some ⟨F, 0, none⟩)) := hS1.cellAt rfl
  have s3 : W.cell? ⟨S, 3, none⟩ = some (.int .i64 rd) := hS1.cellAt rfl
  have HS1 := Lib.hid hS1
  have O1 := Lib.hid o1
  clear hS1 o1
  go_still_tail 8, (by kernel_rfl)
  go_wp2_with fail
  refine (addLine_any F L bs.length rd W.drew HF1.out hn (by omega)).mono ?_
  rintro e X ⟨rfl, L1, hF2, hL1, o2⟩
  have hS2 : Hold X S 54 (cellsOf F (some ⟨b, o, none⟩) bs.length cap semi mode 10 rd rd rd errs) := o2.hold HS1.out (by simpa using ⟨hlt.2.2.2.1, hlt.2.2.2.2.1⟩)
  have OX := Lib.hid (((O1.out.more (hs := [S, F, L]) (by simp)).draw).next o2 (by simp))
  have HL : Hid (L1 = L ∨ w.heap.size ≤ L1) := by
    rcases hL1 with h | h
    · exact .inl h
    · exact .inr (Nat.le_trans O1.out.size h)
  have HFX := Lib.hid hF2
  clear hF2 hL1 o2 HF1 s0 s3 O1 HS1 HF HS
  go_wp2_with fail
  have x1 : X.cell? ⟨S, 1, none⟩ = some (.slice (some ⟨b, o, none⟩) bs.length cap) := hS2.cellAt rfl
  have x2 := hS2.cellAt (i := 2) rfl
  have x3 : X.cell? ⟨S, 3, none⟩ = some (.int .i64 rd) := hS2.cellAt rfl
  have x4 : X.cell? ⟨S, 4, none⟩ = some (.int .i64 rd) := hS2.cellAt rfl
  have y2 : X.frozen? ⟨S, 2, none⟩ = false := hS2.free 2
  have y4 : X.frozen? ⟨S, 4, none⟩ = false := hS2.free 4
  have HSX := Lib.hid hS2
  clear hS2
  replace hcx := OX.out.cell hcx (by simpa using hbS)
  clear hbS
  go_quiet (fail)
  go_wp2_with fail
  refine (error_any S _ _ _ _ _ _ _ _ errs _ _ (X.drewN nq) HSX.out h0 h1).mono ?_
  rintro e w1 ⟨rfl, rfl⟩
  go_wp2_with fail
  go_end0
  refine nexted_in (lo := rd) hr hlt HA.out HR.out HFX.out HL.out OX.out (((Only.refl X [S]).draws _ |>.next (only_err _ S _) (by simp)).next (only_last _ S _ _) (by simp)) ?_
  rw [HE.out, HD.out]
  exact last_cells (err_cells (HSX.out.draws _) _) _ _
set_option maxHeartbeats 4000000 in
set_option maxRecDepth 100000 in
theorem next_hi (S F L : Nat) (A : Option Addr) (cap : Nat) (bs : List UInt8) (semi : Bool) (mode ch : Int) (off rd : Nat) (errs : Int) (w : World) (h : Scn w S F L A cap bs semi mode ch off rd errs)
    (hn : bs.length ≤ 2000000) (hr : rd < bs.length) (h0 : 0 ≤ errs) (h1 : errs < 4611686018427387904) (hx : 128 ≤ bt bs rd) (hT : Lib.Utf8Tabs 0 1 w) (hg : 0 ∉ [S, F, L] ∧ 1 ∉ [S, F, L]) (hc : ch ≠ 10) :
    Calls Tryf.prog 34 #[.pointer (some ⟨S, 0, none⟩)] w (Nexted w S F L A cap bs semi mode rd errs) := by
  have hlt := h.lt
  obtain ⟨⟨lo, hS⟩, hF, hsrc, hap⟩ := h
  obtain ⟨b, o, rfl, hcell⟩ := hsrc.2.2 (by omega)
  have hbS := (hap (by omega) _ rfl)
  have hcx := hcell rd hr
  have hcap := hsrc.1
  have hcap2 := hsrc.2.1
  unfold maxLen at hcap2
  have HC := Lib.hid hcell
  clear hcell
  obtain ⟨d1, d2, d3⟩ := dec_width bs hr
  have d4 := dec_high bs hx
  have d5 := dec_rune bs rd
  have HDG := Lib.hid (decodeGo_drop bs hr)
  have HT := Lib.hid hT
  clear hT
  generalize hdd : dec bs rd = d at *
  have HD := Lib.hid hdd
  clear hdd
  obtain ⟨r, wd⟩ := d
  simp only at d1 d2 d3 d4 d5
  have hxl := bt_lt bs rd
  generalize hxx : bt bs rd = x at *
  have HX := Lib.hid hxx
  clear hxx
  have q0 : ((x : Int) == 0) = false := by simp; omega
  have s1 : w.cell? ⟨S, 1, none⟩ = some (.slice (some ⟨b, o, none⟩) bs.length cap) := hS.cellAt rfl
  have s2 : w.cell? ⟨S, 2, none⟩ = some (.int .i32 ch) := hS.cellAt rfl
  have s3 : w.cell? ⟨S, 3, none⟩ = some (.int .i64 off) := hS.cellAt rfl
  have s4 : w.cell? ⟨S, 4, none⟩ = some (.int .i64 rd) := hS.cellAt rfl
  have s5 : w.cell? ⟨S, 5, none⟩ = some (.int .i64 lo) := hS.cellAt rfl
  have z3 : w.frozen? ⟨S, 3, none⟩ = false := hS.free 3
  have z5 : w.frozen? ⟨S, 5, none⟩ = false := hS.free 5
  have HS := Lib.hid hS
  have HF := Lib.hid hF
  have HA := Lib.hid hap
  have HR := Lib.hid hsrc
  clear hS hF hsrc hap
  have nd : decide ((rd : Int) < (bs.length : Int)) = true := decide_eq_true (by omega)
  have hc' : ((ch : Int) == 10) = false := by simp [hc]
  go_enter Tryf.func34, Tryf.ntmps34
  go_wp2_with fail
  go_quiet (fail)
  go_wp2_with fail
  obtain ⟨X, hW⟩ : ∃ W, (w.drewN nq).setCell ⟨S, 3, none⟩ (.int .i64 rd) = W := ⟨_, rfl⟩
  rw [hW]
  have hS2 : Hold X S 54 (cellsOf F (some ⟨b, o, none⟩) bs.length cap semi mode ch rd rd lo errs) := by
    rw [← hW]
    exact (HS.out.draws nq).put 3 _
  have o1 : Only w X [S] := by
    rw [← hW]
    exact ((Only.refl w [S]).draws nq).put (.inl (by simp)) _
  have HFX := Lib.hid (HF.out.keep o1 (by simpa using Ne.symm hlt.2.2.2.1) (by simpa using Ne.symm hlt.2.2.2.2.1))
  have OX := Lib.hid (o1.more (hs := [S, F, L]) (by simp))
  clear hW s1 s2 s3 s4 s5 z3 z5 o1 HF HS
  have x1 : X.cell? ⟨S, 1, none⟩ = some (.slice (some ⟨b, o, none⟩) bs.length cap) := hS2.cellAt rfl
  have x2 := hS2.cellAt (i := 2) rfl
  have x3 : X.cell? ⟨S, 3, none⟩ = some (.int .i64 rd) := hS2.cellAt rfl
  have x4 : X.cell? ⟨S, 4, none⟩ = some (.int .i64 rd) := hS2.cellAt rfl
  have y2 : X.frozen? ⟨S, 2, none⟩ = false := hS2.free 2
  have y4 : X.frozen? ⟨S, 4, none⟩ = false := hS2.free 4
  have HSX := Lib.hid hS2
  clear hS2
  replace hcx := OX.out.cell hcx (by simpa using hbS)
  have CD : ∀ k, Calls Tryf.prog 45 #[.slice (some ⟨b, o + rd, none⟩) (bs.length - rd) (cap - rd)] (X.drewN k) fun e w' => e = .returned (.tuple #[.int .i32 r, .int .i64 wd]) ∧ Below X.heap.size X w' := by
    intro k
    have hs : (⟨(bs.drop rd).toArray⟩ : ByteArray).size = bs.length - rd := by
      show (bs.drop rd).toArray.size = _
      simp
    have c := Tryf.utf8_DecodeRune ⟨(bs.drop rd).toArray⟩ b (o + rd) (cap - rd) (X.drewN k) (tabs_keep HT.out (OX.out.draws k) hg.1 hg.2) (fun j hj => by
      rw [get_drop, Nat.add_assoc]
      exact OX.out.cell (HC.out (rd + j) (by rw [hs] at hj; omega)) (by simpa using hbS))
    rw [hs, HDG.out] at c
    exact c.mono fun e w' ⟨he, hb⟩ => ⟨he, hb.os, hb.tape, hb.output, hb.size, hb.block⟩
  have CE := Lib.hid CD
  clear CD
  clear hbS
  go_quiet (fail)
  go_wp2_with fail
  have g0 : (0 : Int) ≤ (rd : Int) := by omega
  have g1 : (rd : Int) ≤ (bs.length : Int) := by omega
  have g2 : (rd : Int) ≤ (cap : Int) := by omega
  have g3 : ¬ cap = rd := by omega
  go_region_held3 (fun w' => w'.cell? ⟨S, 1, none⟩ = some (.slice (some ⟨b, o, none⟩) bs.length cap) ∧ w'.cell? ⟨S, 4, none⟩ = some (.int .i64 rd)) (first | exact ⟨t1, t4⟩ | go_keep)
    (first | (go_at_call 45; refine (CE.out _).mono ?_; rintro e w1 ⟨rfl, hb2⟩; have t1 : w1.cell? ⟨S, 1, none⟩ = some (.slice (some ⟨b, o, none⟩) bs.length cap) := (hb2.cell (World.block_lt_of_cell? X _ x1)).trans x1; have t4 : w1.cell? ⟨S, 4, none⟩ = some (.int .i64 rd) := (hb2.cell (World.block_lt_of_cell? X _ x4)).trans x4))
  have hSY : Hold w1 S 54 _ := HSX.out.same (hb2.block S HSX.out.lt)
  have OB := Lib.hid (Only.ofBelow hb2 [S])
  have u3 : w1.cell? ⟨S, 3, none⟩ = some (.int .i64 rd) := hSY.cellAt rfl
  have u2 := hSY.cellAt (i := 2) rfl
  have v2 : w1.frozen? ⟨S, 2, none⟩ = false := hSY.free 2
  have v4 : w1.frozen? ⟨S, 4, none⟩ = false := hSY.free 4
  have HSY := Lib.hid hSY
  clear hb2 hSY
  by_cases q1 : r = 65533
  · subst q1
    by_cases q2 : wd = 1
    · subst q2
      go_wp2_with fail
      refine (error_any S _ _ _ _ _ _ _ _ errs _ _ w1 HSY.out h0 h1).mono ?_
      rintro e w2 ⟨rfl, rfl⟩
      go_wp2_with fail
      go_end0
      refine nexted_in (lo := lo) hr hlt HA.out HR.out HFX.out (.inl rfl) OX.out ((OB.out.next (only_err _ S _) (by simp)).next (only_last _ S _ _) (by simp)) ?_
      rw [nxErr_yes hr (by unfold bad; rw [HD.out]; exact .inr (.inl ⟨rfl, rfl⟩)), HD.out]
      exact last_cells (err_cells HSY.out _) _ _
    · have q3 : ((wd : Int) == 1) = false := by simp; omega
      go_wp2_with fail
      go_end0
      refine nexted_in (lo := lo) hr hlt HA.out HR.out HFX.out (.inl rfl) OX.out (OB.out.next (only_last _ S _ _) (by simp)) ?_
      rw [nxErr_no (by unfold bad; rw [HD.out]; simp only; omega), HD.out, Int.add_zero]
      exact last_cells HSY.out _ _
  · have q2 : ((r : Int) == 65533) = false := by simp; omega
    by_cases q3 : r = 65279
    · subst q3
      by_cases q4 : 0 < rd
      · have q5 : decide ((0 : Int) < (rd : Int)) = true := decide_eq_true (by omega)
        go_wp2_with fail
        refine (error_any S _ _ _ _ _ _ _ _ errs _ _ w1 HSY.out h0 h1).mono ?_
        rintro e w2 ⟨rfl, rfl⟩
        go_wp2_with fail
        go_end0
        refine nexted_in (lo := lo) hr hlt HA.out HR.out HFX.out (.inl rfl) OX.out ((OB.out.next (only_err _ S _) (by simp)).next (only_last _ S _ _) (by simp)) ?_
        rw [nxErr_yes hr (by unfold bad; rw [HD.out]; exact .inr (.inr ⟨rfl, q4⟩)), HD.out]
        exact last_cells (err_cells HSY.out _) _ _
      · have q5 : decide ((0 : Int) < (rd : Int)) = false := decide_eq_false (by omega)
        go_wp2_with fail
        go_end0
        refine nexted_in (lo := lo) hr hlt HA.out HR.out HFX.out (.inl rfl) OX.out (OB.out.next (only_last _ S _ _) (by simp)) ?_
        rw [nxErr_no (by unfold bad; rw [HD.out]; simp only; omega), HD.out, Int.add_zero]
        exact last_cells HSY.out _ _
    · have q4 : ((r : Int) == 65279) = false := by simp; omega
      go_wp2_with fail
      go_end0
      refine nexted_in (lo := lo) hr hlt HA.out HR.out HFX.out (.inl rfl) OX.out (OB.out.next (only_last _ S _ _) (by simp)) ?_
      rw [nxErr_no (by unfold bad; rw [HD.out]; simp only; omega), HD.out, Int.add_zero]
      exact last_cells HSY.out _ _
set_option maxHeartbeats 4000000 in
set_option maxRecDepth 100000 in
theorem next_hi10 (S F L : Nat) (A : Option Addr) (cap : Nat) (bs : List UInt8) (semi : Bool) (mode ch : Int) (off rd : Nat) (errs : Int) (w : World) (h : Scn w S F L A cap bs semi mode ch off rd errs)
    (hn : bs.length ≤ 2000000) (hr : rd < bs.length) (h0 : 0 ≤ errs) (h1 : errs < 4611686018427387904) (hx : 128 ≤ bt bs rd) (hT : Lib.Utf8Tabs 0 1 w) (hg : 0 ∉ [S, F, L] ∧ 1 ∉ [S, F, L]) (hc : ch = 10) :
    Calls Tryf.prog 34 #[.pointer (some ⟨S, 0, none⟩)] w (Nexted w S F L A cap bs semi mode rd errs) := by
  have hlt := h.lt
  obtain ⟨⟨lo, hS⟩, hF, hsrc, hap⟩ := h
  obtain ⟨b, o, rfl, hcell⟩ := hsrc.2.2 (by omega)
  have hbS := (hap (by omega) _ rfl)
  have hcx := hcell rd hr
  have hcap := hsrc.1
  have hcap2 := hsrc.2.1
  unfold maxLen at hcap2
  have HC := Lib.hid hcell
  clear hcell
  obtain ⟨d1, d2, d3⟩ := dec_width bs hr
  have d4 := dec_high bs hx
  have d5 := dec_rune bs rd
  have HDG := Lib.hid (decodeGo_drop bs hr)
  have HT := Lib.hid hT
  clear hT
  generalize hdd : dec bs rd = d at *
  have HD := Lib.hid hdd
  clear hdd
  obtain ⟨r, wd⟩ := d
  simp only at d1 d2 d3 d4 d5
  have hxl := bt_lt bs rd
  generalize hxx : bt bs rd = x at *
  have HX := Lib.hid hxx
  clear hxx
  have q0 : ((x : Int) == 0) = false := by simp; omega
  have s1 : w.cell? ⟨S, 1, none⟩ = some (.slice (some ⟨b, o, none⟩) bs.length cap) := hS.cellAt rfl
  have s2 : w.cell? ⟨S, 2, none⟩ = some (.int .i32 ch) := hS.cellAt rfl
  have s3 : w.cell? ⟨S, 3, none⟩ = some (.int .i64 off) := hS.cellAt rfl
  have s4 : w.cell? ⟨S, 4, none⟩ = some (.int .i64 rd) := hS.cellAt rfl
  have s5 : w.cell? ⟨S, 5, none⟩ = some (.int .i64 lo) := hS.cellAt rfl
  have z3 : w.frozen? ⟨S, 3, none⟩ = false := hS.free 3
  have z5 : w.frozen? ⟨S, 5, none⟩ = false := hS.free 5
  have HS := Lib.hid hS
  have HF := Lib.hid hF
  have HA := Lib.hid hap
  have HR := Lib.hid hsrc
  clear hS hF hsrc hap
  have nd : decide ((rd : Int) < (bs.length : Int)) = true := decide_eq_true (by omega)
  subst hc
  go_enter Tryf.func34, Tryf.ntmps34
  go_wp2_with fail
  go_quiet (fail)
  go_wp2_with fail
  obtain ⟨W, hW⟩ : ∃ W, ((w.drewN nq).setCell ⟨S, 3, none⟩ (.int .i64 rd)).setCell ⟨S, 5, none⟩ (.int .i64 rd) = W := ⟨_, rfl⟩
  rw [hW]
  have hS1 : Hold W S 54 (cellsOf F (some ⟨b, o, none⟩) bs.length cap semi mode 10 rd rd rd errs) := by
    rw [← hW]
    exact ((HS.out.draws nq).put 3 _).put 5 _
  have o1 : Only w W [S] := by
    rw [← hW]
    exact (((Only.refl w [S]).draws nq).put (.inl (by simp)) _).put (.inl (by simp)) _
  have HF1 := Lib.hid (HF.out.keep o1 (by simpa using Ne.symm hlt.2.2.2.1) (by simpa using Ne.symm hlt.2.2.2.2.1))
  clear hW s1 s2 s3 s4 s5 z3 z5
  have s0 : W.cell? ⟨S, 0, none⟩ = some (.pointer (some ⟨F, 0, none⟩)) := hS1.cellAt rfl
  have s3 : W.cell? ⟨S, 3, none⟩ = some (.int .i64 rd) := hS1.cellAt rfl
  have HS1 := Lib.hid hS1
  have O1 := Lib.hid o1
  clear hS1 o1
  go_still_tail 8, (by kernel_rfl)
  go_wp2_with fail
  refine (addLine_any F L bs.length rd W.drew HF1.out hn (by omega)).mono ?_
  rintro e X ⟨rfl, L1, hF2, hL1, o2⟩
  have hS2 : Hold X S 54 (cellsOf F (some ⟨b, o, none⟩) bs.length cap semi mode 10 rd rd rd errs) := o2.hold HS1.out (by simpa using ⟨hlt.2.2.2.1, hlt.2.2.2.2.1⟩)
  have OX := Lib.hid (((O1.out.more (hs := [S, F, L]) (by simp)).draw).next o2 (by simp))
  have HL : Hid (L1 = L ∨ w.heap.size ≤ L1) := by
    rcases hL1 with h | h
    · exact .inl h
    · exact .inr (Nat.le_trans O1.out.size h)
  have HFX := Lib.hid hF2
  clear hF2 hL1 o2 HF1 s0 s3 O1 HS1 HF HS
  go_wp2_with fail
  have x1 : X.cell? ⟨S, 1, none⟩ = some (.slice (some ⟨b, o, none⟩) bs.length cap) := hS2.cellAt rfl
  have x2 := hS2.cellAt (i := 2) rfl
  have x3 : X.cell? ⟨S, 3, none⟩ = some (.int .i64 rd) := hS2.cellAt rfl
  have x4 : X.cell? ⟨S, 4, none⟩ = some (.int .i64 rd) := hS2.cellAt rfl
  have y2 : X.frozen? ⟨S, 2, none⟩ = false := hS2.free 2
  have y4 : X.frozen? ⟨S, 4, none⟩ = false := hS2.free 4
  have HSX := Lib.hid hS2
  clear hS2
  replace hcx := OX.out.cell hcx (by simpa using hbS)
  have CD : ∀ k, Calls Tryf.prog 45 #[.slice (some ⟨b, o + rd, none⟩) (bs.length - rd) (cap - rd)] (X.drewN k) fun e w' => e = .returned (.tuple #[.int .i32 r, .int .i64 wd]) ∧ Below X.heap.size X w' := by
    intro k
    have hs : (⟨(bs.drop rd).toArray⟩ : ByteArray).size = bs.length - rd := by
      show (bs.drop rd).toArray.size = _
      simp
    have c := Tryf.utf8_DecodeRune ⟨(bs.drop rd).toArray⟩ b (o + rd) (cap - rd) (X.drewN k) (tabs_keep HT.out (OX.out.draws k) hg.1 hg.2) (fun j hj => by
      rw [get_drop, Nat.add_assoc]
      exact OX.out.cell (HC.out (rd + j) (by rw [hs] at hj; omega)) (by simpa using hbS))
    rw [hs, HDG.out] at c
    exact c.mono fun e w' ⟨he, hb⟩ => ⟨he, hb.os, hb.tape, hb.output, hb.size, hb.block⟩
  have CE := Lib.hid CD
  clear CD
  clear hbS
  go_quiet (fail)
  go_wp2_with fail
  have g0 : (0 : Int) ≤ (rd : Int) := by omega
  have g1 : (rd : Int) ≤ (bs.length : Int) := by omega
  have g2 : (rd : Int) ≤ (cap : Int) := by omega
  have g3 : ¬ cap = rd := by omega
  go_region_held3 (fun w' => w'.cell? ⟨S, 1, none⟩ = some (.slice (some ⟨b, o, none⟩) bs.length cap) ∧ w'.cell? ⟨S, 4, none⟩ = some (.int .i64 rd)) (first | exact ⟨t1, t4⟩ | go_keep)
    (first | (go_at_call 45; refine (CE.out _).mono ?_; rintro e w1 ⟨rfl, hb2⟩; have t1 : w1.cell? ⟨S, 1, none⟩ = some (.slice (some ⟨b, o, none⟩) bs.length cap) := (hb2.cell (World.block_lt_of_cell? X _ x1)).trans x1; have t4 : w1.cell? ⟨S, 4, none⟩ = some (.int .i64 rd) := (hb2.cell (World.block_lt_of_cell? X _ x4)).trans x4))
  have hSY : Hold w1 S 54 _ := HSX.out.same (hb2.block S HSX.out.lt)
  have OB := Lib.hid (Only.ofBelow hb2 [S])
  have u3 : w1.cell? ⟨S, 3, none⟩ = some (.int .i64 rd) := hSY.cellAt rfl
  have u2 := hSY.cellAt (i := 2) rfl
  have v2 : w1.frozen? ⟨S, 2, none⟩ = false := hSY.free 2
  have v4 : w1.frozen? ⟨S, 4, none⟩ = false := hSY.free 4
  have HSY := Lib.hid hSY
  clear hb2 hSY
  by_cases q1 : r = 65533
  · subst q1
    by_cases q2 : wd = 1
    · subst q2
      go_wp2_with fail
      refine (error_any S _ _ _ _ _ _ _ _ errs _ _ w1 HSY.out h0 h1).mono ?_
      rintro e w2 ⟨rfl, rfl⟩
      go_wp2_with fail
      go_end0
      refine nexted_in (lo := rd) hr hlt HA.out HR.out HFX.out HL.out OX.out ((OB.out.next (only_err _ S _) (by simp)).next (only_last _ S _ _) (by simp)) ?_
      rw [nxErr_yes hr (by unfold bad; rw [HD.out]; exact .inr (.inl ⟨rfl, rfl⟩)), HD.out]
      exact last_cells (err_cells HSY.out _) _ _
    · have q3 : ((wd : Int) == 1) = false := by simp; omega
      go_wp2_with fail
      go_end0
      refine nexted_in (lo := rd) hr hlt HA.out HR.out HFX.out HL.out OX.out (OB.out.next (only_last _ S _ _) (by simp)) ?_
      rw [nxErr_no (by unfold bad; rw [HD.out]; simp only; omega), HD.out, Int.add_zero]
      exact last_cells HSY.out _ _
  · have q2 : ((r : Int) == 65533) = false := by simp; omega
    by_cases q3 : r = 65279
    · subst q3
      by_cases q4 : 0 < rd
      · have q5 : decide ((0 : Int) < (rd : Int)) = true := decide_eq_true (by omega)
        go_wp2_with fail
        refine (error_any S _ _ _ _ _ _ _ _ errs _ _ w1 HSY.out h0 h1).mono ?_
        rintro e w2 ⟨rfl, rfl⟩
        go_wp2_with fail
        go_end0
        refine nexted_in (lo := rd) hr hlt HA.out HR.out HFX.out HL.out OX.out ((OB.out.next (only_err _ S _) (by simp)).next (only_last _ S _ _) (by simp)) ?_
        rw [nxErr_yes hr (by unfold bad; rw [HD.out]; exact .inr (.inr ⟨rfl, q4⟩)), HD.out]
        exact last_cells (err_cells HSY.out _) _ _
      · have q5 : decide ((0 : Int) < (rd : Int)) = false := decide_eq_false (by omega)
        go_wp2_with fail
        go_end0
        refine nexted_in (lo := rd) hr hlt HA.out HR.out HFX.out HL.out OX.out (OB.out.next (only_last _ S _ _) (by simp)) ?_
        rw [nxErr_no (by unfold bad; rw [HD.out]; simp only; omega), HD.out, Int.add_zero]
        exact last_cells HSY.out _ _
    · have q4 : ((r : Int) == 65279) = false := by simp; omega
      go_wp2_with fail
      go_end0
      refine nexted_in (lo := rd) hr hlt HA.out HR.out HFX.out HL.out OX.out (OB.out.next (only_last _ S _ _) (by simp)) ?_
      rw [nxErr_no (by unfold bad; rw [HD.out]; simp only; omega), HD.out, Int.add_zero]
      exact last_cells HSY.out _ _

/-- (*Scanner).next, for every state of a scanner without a handler. -/
theorem next_any (S F L : Nat) (A : Option Addr) (cap : Nat) (bs : List UInt8) (semi : Bool) (mode ch : Int) (off rd : Nat) (errs : Int) (w : World) (h : Scn w S F L A cap bs semi mode ch off rd errs)
    (hn : bs.length ≤ 2000000) (hr : rd ≤ 2000000) (h0 : 0 ≤ errs) (h1 : errs < 4611686018427387904) (hT : Lib.Utf8Tabs 0 1 w) (hg : 0 ∉ [S, F, L] ∧ 1 ∉ [S, F, L]) :
    Calls Tryf.prog 34 #[.pointer (some ⟨S, 0, none⟩)] w (Nexted w S F L A cap bs semi mode rd errs) := by
  by_cases hr2 : bs.length ≤ rd
  · exact next_end S F L A cap bs semi mode ch off rd errs w h hn hr2 hr h0 h1
  · have hr3 : rd < bs.length := by omega
    by_cases hx : bt bs rd < 128
    · by_cases hx0 : bt bs rd = 0
      · by_cases hc : ch = 10
        · exact next_nul10 S F L A cap bs semi mode ch off rd errs w h hn hr3 h0 h1 hx hx0 hc
        · exact next_nul S F L A cap bs semi mode ch off rd errs w h hn hr3 h0 h1 hx hx0 hc
      · by_cases hc : ch = 10
        · exact next_asc10 S F L A cap bs semi mode ch off rd errs w h hn hr3 h0 h1 hx hx0 hc
        · exact next_asc S F L A cap bs semi mode ch off rd errs w h hn hr3 h0 h1 hx hx0 hc
    · by_cases hc : ch = 10
      · exact next_hi10 S F L A cap bs semi mode ch off rd errs w h hn hr3 h0 h1 (by omega) hT hg hc
      · exact next_hi S F L A cap bs semi mode ch off rd errs w h hn hr3 h0 h1 (by omega) hT hg hc
end Go.Proofs.YtpdfompeoceklaaFmt.Core
