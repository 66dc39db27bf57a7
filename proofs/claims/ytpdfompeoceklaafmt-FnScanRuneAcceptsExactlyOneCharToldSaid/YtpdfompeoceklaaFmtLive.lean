/-
  Proved: a scanner of one's own, known since the world w0 in which it was made: what stands in its fields, and that next moves it on; everything older stands.
  Conditions: the library's UTF-8 tables hold what the row lists.
-/
import Derived.Test.YtpdfompeoceklaaFmtArg
namespace Go.Proofs.YtpdfompeoceklaaFmt.Core
open Go.ChangeShapes Go.WideShapes Go.ChangeAt Go.RowKit
set_option linter.unusedVariables false

abbrev Tabs (w : World) : Prop := Lib.Utf8Tabs 0 1 w
theorem Tabs.lt {w : World} (h : Tabs w) : 0 < w.heap.size ∧ 1 < w.heap.size :=
  ⟨World.block_lt_of_cell? w _ (h.1 0 (by omega)), World.block_lt_of_cell? w _ (h.2 0 (by omega)).1⟩
theorem Tabs.only {w w' : World} (h : Tabs w) (ho : Only w w' []) : Tabs w' := tabs_keep h ho (by simp) (by simp)

/-- Where a scanner's memory may lie: in the blocks x of the world w, or in newer ones; its text in a block of which t is true. -/
structure Base where
  w : World
  x : List Nat
  t : Nat → Prop
instance : Coe World Base := ⟨fun w => ⟨w, [], fun _ => True⟩⟩
/-- The base whose text is new too. -/
def Base.new (w : World) : Base := ⟨w, [], fun n => w.heap.size ≤ n⟩
def Base.In (b : Base) (n : Nat) : Prop := n ∈ b.x ∨ b.w.heap.size ≤ n
def Base.Clear (b : Base) : Prop := 0 ∉ b.x ∧ 1 ∉ b.x
theorem Base.clear_nil {w : World} {t : Nat → Prop} : (Base.mk w [] t).Clear := ⟨by simp, by simp⟩

/-- The scanner behind S stands at byte p of bs and has counted errs; its memory is in the base's blocks or younger, and nothing else of the base's world has turned. -/
def Live (w0 : Base) (w : World) (S : Nat) (bs : List UInt8) (semi : Bool) (mode : Int) (p : Nat) (errs : Int) : Prop :=
  ∃ F L A cap, At w S F L A cap bs semi mode p errs ∧ w0.In S ∧ w0.In F ∧ w0.In L ∧ (∀ a, A = some a → w0.t a.block) ∧ Only w0.w w w0.x ∧ Tabs w0.w ∧ w0.Clear ∧ bs.length ≤ 2000000 ∧ p ≤ bs.length

section
variable {w0 : Base} {w : World} {S : Nat} {bs : List UInt8} {semi : Bool} {mode : Int} {p : Nat} {errs : Int}
theorem Live.only (h : Live w0 w S bs semi mode p errs) : Only w0.w w w0.x := by obtain ⟨F, L, A, cap, _, _, _, _, _, h, _⟩ := h; exact h
theorem Live.tabs (h : Live w0 w S bs semi mode p errs) : Tabs w := by obtain ⟨F, L, A, cap, _, _, _, _, _, h, k, c, _⟩ := h; exact tabs_keep k h c.1 c.2
theorem Live.le (h : Live w0 w S bs semi mode p errs) : p ≤ bs.length := by obtain ⟨F, L, A, cap, _, _, _, _, _, _, _, _, _, h⟩ := h; exact h
theorem Live.len (h : Live w0 w S bs semi mode p errs) : bs.length ≤ 2000000 := by obtain ⟨F, L, A, cap, _, _, _, _, _, _, _, _, h, _⟩ := h; exact h
theorem Live.below {v : World} {t : Nat → Prop} (h : Live ⟨v, [], t⟩ w S bs semi mode p errs) : Below v.heap.size v w := Only.below h.only (Nat.le_refl _) (by simp)
theorem Live.draws (h : Live w0 w S bs semi mode p errs) (n : Nat) : Live w0 (w.drewN n) S bs semi mode p errs := by
  obtain ⟨F, L, A, cap, h1, h2, h3, h4, h4t, h5, h6, h7, h8, h9⟩ := h
  exact ⟨F, L, A, cap, h1, h2, h3, h4, h4t, h5.draws n, h6, h7, h8, h9⟩
theorem Live.ch (h : Live w0 w S bs semi mode p errs) : w.cell? ⟨S, 2, none⟩ = some (.int .i32 (nxCh bs p)) := by
  obtain ⟨F, L, A, cap, ⟨⟨lo, h1⟩, _⟩, _⟩ := h; exact h1.cellAt rfl
theorem nxOff_eq {bs : List UInt8} {p : Nat} (h : p ≤ bs.length) : nxOff bs p = p := by unfold nxOff; split <;> omega
theorem Live.off (h : Live w0 w S bs semi mode p errs) : w.cell? ⟨S, 3, none⟩ = some (.int .i64 p) := by
  have hp := h.le
  obtain ⟨F, L, A, cap, ⟨⟨lo, h1⟩, _⟩, _⟩ := h
  have := h1.cellAt (i := 3) rfl
  rwa [nxOff_eq hp] at this
theorem Live.rd (h : Live w0 w S bs semi mode p errs) : w.cell? ⟨S, 4, none⟩ = some (.int .i64 (nxRd bs p)) := by
  obtain ⟨F, L, A, cap, ⟨⟨lo, h1⟩, _⟩, _⟩ := h; exact h1.cellAt rfl
theorem Live.semiC (h : Live w0 w S bs semi mode p errs) : w.cell? ⟨S, 6, none⟩ = some (.bool semi) := by
  obtain ⟨F, L, A, cap, ⟨⟨lo, h1⟩, _⟩, _⟩ := h; exact h1.cellAt rfl
theorem Live.errsC (h : Live w0 w S bs semi mode p errs) : w.cell? ⟨S, 8, none⟩ = some (.int .i64 errs) := by
  obtain ⟨F, L, A, cap, ⟨⟨lo, h1⟩, _⟩, _⟩ := h; exact h1.cellAt rfl
theorem Live.modeC (h : Live w0 w S bs semi mode p errs) : w.cell? ⟨S, 9, none⟩ = some (.int .i64 mode) := by
  obtain ⟨F, L, A, cap, ⟨⟨lo, h1⟩, _⟩, _⟩ := h; exact h1.cellAt rfl
/-- Its text, as a slice in its own field. -/
theorem Live.src (h : Live w0 w S bs semi mode p errs) : ∃ A cap, w.cell? ⟨S, 1, none⟩ = some (.slice A bs.length cap) ∧ Src w A cap bs := by
  obtain ⟨F, L, A, cap, ⟨⟨lo, h1⟩, _, h2, _⟩, _⟩ := h; exact ⟨A, cap, h1.cellAt rfl, h2⟩
theorem Live.lt (h : Live w0 w S bs semi mode p errs) : S < w.heap.size := by
  obtain ⟨F, L, A, cap, ⟨⟨lo, h1⟩, _⟩, _⟩ := h; exact h1.lt
theorem Live.ge (h : Live w0 w S bs semi mode p errs) : w0.In S := by obtain ⟨F, L, A, cap, _, h, _⟩ := h; exact h
/-- Only the scanner's own count of errors turns. -/
theorem Live.counted (h : Live w0 w S bs semi mode p errs) (n : Int) : Live w0 (w.setCell ⟨S, 8, none⟩ (.int .i64 n)) S bs semi mode p n := by
  obtain ⟨F, L, A, cap, hA, h2, h3, h4, h4t, h5, h6, h7, h8, h9⟩ := h
  have hlt := Scn.lt hA
  obtain ⟨⟨lo, h1⟩, hF, hs, hAA⟩ := hA
  have o : Only w (w.setCell ⟨S, 8, none⟩ (.int .i64 n)) [S] := (Only.refl w [S]).put (.inl (by simp)) _
  refine ⟨F, L, A, cap, ⟨⟨lo, h1.put 8 _⟩, hF.keep o (by simp; omega) (by simp; omega), hs.keep o (fun hp a ha => by have := hAA hp a ha; simp; exact this.1), hAA⟩, h2, h3, h4, h4t, h5.next o ?_, h6, h7, h8, h9⟩
  intro x hx
  simp at hx
  subst hx
  exact h2
/-- New blocks and draws leave it. -/
theorem Live.later (h : Live w0 w S bs semi mode p errs) {w' : World} (hb : Below w.heap.size w w') : Live w0 w' S bs semi mode p errs := by
  obtain ⟨F, L, A, cap, ⟨⟨lo, h1⟩, hF, hs, hA⟩, h2, h3, h4, h4t, h5, h6, h7, h8, h9⟩ := h
  have o : Only w w' [] := Only.ofBelow hb []
  exact ⟨F, L, A, cap, ⟨⟨lo, o.hold h1 (by simp)⟩, hF.keep o (by simp) (by simp), hs.keep o (by simp), hA⟩, h2, h3, h4, h4t, h5.next o (by simp), h6, h7, h8, h9⟩
/-- It was made later still: an older start serves. -/
theorem Live.since {v0 : World} {t : Nat → Prop} (h : Live ⟨v0, [], t⟩ w S bs semi mode p errs) {v : World} (ho : Only v v0 []) (hT : Tabs v) : Live ⟨v, [], t⟩ w S bs semi mode p errs := by
  obtain ⟨F, L, A, cap, h1, h2, h3, h4, h4t, h5, h6, h7, h8, h9⟩ := h
  have hz := ho.size
  simp only [Base.In] at h2 h3 h4
  simp at h2 h3 h4
  exact ⟨F, L, A, cap, h1, .inr (by simp only; omega), .inr (by simp only; omega), .inr (by simp only; omega), h4t, ho.next h5 (by simp), hT, Base.clear_nil, h8, h9⟩
/-- The base moved to where the scanner stands now, older blocks told. -/
theorem Live.focus {v : World} {t : Nat → Prop} (h : Live ⟨v, [], t⟩ w S bs semi mode p errs) {w' : World} (hb : Below w.heap.size w w') : ∃ F L, Live ⟨w', [S, F, L], t⟩ w' S bs semi mode p errs ∧ ∀ x ∈ [S, F, L], v.heap.size ≤ x ∧ x < w.heap.size := by
  have hT := (h.later hb).tabs
  have hTv : Tabs v := by obtain ⟨_, _, _, _, _, _, _, _, _, _, k, _⟩ := h; exact k
  obtain ⟨F, L, A, cap, hA, h2, h3, h4, h4t, h5, h6, h7, h8, h9⟩ := h
  have hlt := Scn.lt hA
  have o : Only w w' [] := Only.ofBelow hb []
  have tl := hTv.lt
  simp only [Base.In] at h2 h3 h4
  simp at h2 h3 h4
  refine ⟨F, L, ⟨F, L, A, cap, Scn.keep hA o (by simp) (by simp) (by simp) (by simp), .inl (by simp), .inl (by simp), .inl (by simp), h4t, Only.refl _ _, hT, ⟨?_, ?_⟩, h8, h9⟩, ?_⟩
  · simp; omega
  · simp; omega
  · intro x hx
    simp at hx
    omega
/-- Another scanner, all of it younger, is left alone. -/
theorem Live.moved {v : World} {t : Nat → Prop} (h : Live ⟨v, [], t⟩ w S bs semi mode p errs) {w' : World} {gs : List Nat} (ho : Only w w' gs) (hg : ∀ x ∈ gs, x < v.heap.size ∧ ¬ t x) (hT : Tabs w') : ∃ F L, Live ⟨w', [S, F, L], t⟩ w' S bs semi mode p errs ∧ ∀ x ∈ [S, F, L], v.heap.size ≤ x ∧ x < w.heap.size := by
  have hTv : Tabs v := by obtain ⟨_, _, _, _, _, _, _, _, _, _, k, _⟩ := h; exact k
  obtain ⟨F, L, A, cap, hA, h2, h3, h4, h4t, h5, h6, h7, h8, h9⟩ := h
  have hlt := Scn.lt hA
  have tl := hTv.lt
  simp only [Base.In] at h2 h3 h4
  simp at h2 h3 h4
  have out : ∀ n, v.heap.size ≤ n → n ∉ gs := fun n hn hm => by have := (hg n hm).1; omega
  refine ⟨F, L, ⟨F, L, A, cap, Scn.keep hA ho (out _ h2) (out _ h3) (out _ h4) (fun _ a ha hm => (hg _ hm).2 (h4t a ha)), .inl (by simp), .inl (by simp), .inl (by simp), h4t, Only.refl _ _, hT, ⟨?_, ?_⟩, h8, h9⟩, ?_⟩
  · simp; omega
  · simp; omega
  · intro x hx
    simp at hx
    omega
end

/-- (*Scanner).next. -/
theorem live_next {w0 : Base} {w : World} {S : Nat} {bs : List UInt8} {semi : Bool} {mode : Int} {p : Nat} {errs : Int} (h : Live w0 w S bs semi mode p errs) (h0 : 0 ≤ errs) (h1 : errs < 4611686018427387904) :
    Calls Tryf.prog 34 #[.pointer (some ⟨S, 0, none⟩)] w fun e w' => e = .returned (.tuple #[]) ∧ Live w0 w' S bs semi mode (nxRd bs p) (errs + nxErr bs (nxRd bs p)) ∧ w.heap.size ≤ w'.heap.size := by
  have hT := h.tabs
  obtain ⟨F, L, A, cap, hA, h2, h3, h4, h4t, h5, h6, h7, h8, h9⟩ := h
  have hl := h6.lt
  have hz := h5.size
  have out : ∀ g n, g ∉ w0.x → g < w0.w.heap.size → w0.In n → g ≠ n := by
    intro g n a b c e
    subst e
    rcases c with c | c
    · exact a c
    · omega
  have hg : 0 ∉ [S, F, L] ∧ 1 ∉ [S, F, L] := by
    refine ⟨?_, ?_⟩
    · simp only [List.mem_cons, List.not_mem_nil, or_false, not_or]
      exact ⟨out _ _ h7.1 hl.1 h2, out _ _ h7.1 hl.1 h3, out _ _ h7.1 hl.1 h4⟩
    · simp only [List.mem_cons, List.not_mem_nil, or_false, not_or]
      exact ⟨out _ _ h7.2 hl.2 h2, out _ _ h7.2 hl.2 h3, out _ _ h7.2 hl.2 h4⟩
  refine (next_at S F L A cap bs semi mode p errs w hA h8 h9 h0 h1 hT hg).mono ?_
  rintro e w' ⟨rfl, L', hA', hL, ho⟩
  refine ⟨rfl, ⟨F, L', A, cap, hA', h2, h3, ?_, h4t, h5.next ho ?_, h6, h7, h8, nxRd_le h9⟩, ho.size⟩
  · rcases hL with rfl | hL
    · exact h4
    · exact .inr (by omega)
  · intro x hx
    simp at hx
    rcases hx with rfl | rfl | rfl
    · exact h2
    · exact h3
    · exact h4

/-- NewScanner over a file of its own that AddFile has just made in a new set: the way each law makes one. -/
theorem live_made {w w1 w2 : World} {F L S : Nat} {A : Option Addr} {cap : Nat} {bs : List UInt8} {mode : Int} {e : Ending} (t : Nat → Prop) (hA : ∀ a, A = some a → t a.block) (hT : Tabs w) (hn : bs.length ≤ 2000000) (ho : Only w w1 []) (hF : w.heap.size ≤ F) (hL : w.heap.size ≤ L)
    (h : Newed w1 F L A cap bs mode e w2) : ∃ S, e = .returned (.pointer (some ⟨S, 0, none⟩)) ∧ Live ⟨w, [], t⟩ w2 S bs false mode (bom bs) (nxErr bs (bom bs)) := by
  obtain ⟨S, L', rfl, hA', h1, h2, h3⟩ := h
  have := ho.size
  refine ⟨S, rfl, F, L', A, cap, hA', .inr (by simp only; omega), .inr hF, .inr (by simp only; omega), hA, ho.next h3 ?_, hT, Base.clear_nil, hn, bom_le bs⟩
  intro x hx
  simp at hx
  right
  omega

/-! ### A byte order mark. -/
theorem decodeN_bom (n b0 b1 b2 b3 : Nat) (h0 : b0 < 256) (h1 : b1 < 256) (h2 : b2 < 256) : (Lib.decodeN n b0 b1 b2 b3).1 = 65279 ↔ (3 ≤ n ∧ b0 = 239 ∧ b1 = 187 ∧ b2 = 191) := by
  unfold Lib.decodeN
  repeat' split
  all_goals (simp only; omega)
theorem decodeN_bom_width (n b0 b1 b2 b3 : Nat) (h : (Lib.decodeN n b0 b1 b2 b3).1 = 65279) : (Lib.decodeN n b0 b1 b2 b3).2 = 3 := by
  unfold Lib.decodeN at h ⊢
  repeat' split
  all_goals (simp only [] at h ⊢)
  all_goals (repeat' (split at h))
  all_goals (try simp only [] at h)
  all_goals omega
theorem dec_bom (bs : List UInt8) (i : Nat) : (dec bs i).1 = 65279 ↔ (i + 3 ≤ bs.length ∧ bt bs i = 239 ∧ bt bs (i + 1) = 187 ∧ bt bs (i + 2) = 191) := by
  unfold dec
  rw [decodeN_bom _ _ _ _ _ (bt_lt bs i) (bt_lt bs (i + 1)) (bt_lt bs (i + 2))]
  omega
theorem dec_bom_width (bs : List UInt8) (i : Nat) (h : (dec bs i).1 = 65279) : (dec bs i).2 = 3 := decodeN_bom_width _ _ _ _ _ h
theorem bom_yes {bs : List UInt8} (h : 3 ≤ bs.length ∧ bt bs 0 = 239 ∧ bt bs 1 = 187 ∧ bt bs 2 = 191) : bom bs = 3 := by
  have hd := (dec_bom bs 0).2 ⟨by omega, h.2.1, h.2.2.1, h.2.2.2⟩
  unfold bom
  rw [if_pos ⟨by omega, hd⟩, dec_bom_width bs 0 hd]
theorem bom_no {bs : List UInt8} (h : ¬ (3 ≤ bs.length ∧ bt bs 0 = 239 ∧ bt bs 1 = 187 ∧ bt bs 2 = 191)) : bom bs = 0 := by
  unfold bom
  rw [if_neg]
  rintro ⟨_, hd⟩
  have := (dec_bom bs 0).1 hd
  exact h ⟨by omega, this.2.1, this.2.2.1, this.2.2.2⟩
end Go.Proofs.YtpdfompeoceklaaFmt.Core
