/-
  Proved: plain laws on the text of a chain of binary expressions: it is one group of parentheses with as many pairs as operators; the two chains differ from three leaves on.
  Conditions: none.
-/
import Derived.Test.YtpniflbleihdoaaDoorBTok
namespace Go.Proofs.YtpniflbleihdoaaDoor.Bin
open Go.ChangeShapes Go.WideShapes Go.ChangeAt Go.RowKit Go.Lib Core
set_option linter.unusedVariables false

/-! ### Depth and count. -/
def step (c : UInt8) : Int := if c = 40 then 1 else if c = 41 then -1 else 0
def dl : List UInt8 → Int
  | [] => 0
  | c :: l => step c + dl l
def op : List UInt8 → Nat
  | [] => 0
  | c :: l => (if c = 40 then 1 else 0) + op l
theorem dl_append (a b : List UInt8) : dl (a ++ b) = dl a + dl b := by
  induction a with
  | nil => simp [dl]
  | cons c a ih => simp only [List.cons_append, dl, ih]; omega
theorem op_append (a b : List UInt8) : op (a ++ b) = op a + op b := by
  induction a with
  | nil => simp [op]
  | cons c a ih => simp only [List.cons_append, op, ih]; omega
def Bal (l : List UInt8) : Prop := dl l = 0 ∧ ∀ i, 0 ≤ dl (l.take i)
/-- No parenthesis. -/
def Flat (l : List UInt8) : Prop := ∀ c ∈ l, c ≠ 40 ∧ c ≠ 41
theorem Flat.zero {l : List UInt8} (h : Flat l) : dl l = 0 ∧ op l = 0 := by
  induction l with
  | nil => exact ⟨rfl, rfl⟩
  | cons c l ih =>
    have hc := h c (by simp)
    have := ih (fun d hd => h d (by simp [hd]))
    refine ⟨?_, ?_⟩
    · rw [dl, step, if_neg hc.1, if_neg hc.2, this.1]; rfl
    · rw [op, if_neg hc.1, this.2]
theorem Flat.take {l : List UInt8} (h : Flat l) (i : Nat) : Flat (l.take i) := fun c hc => h c (List.mem_of_mem_take hc)
theorem Flat.bal {l : List UInt8} (h : Flat l) : Bal l := ⟨h.zero.1, fun i => by rw [(h.take i).zero.1]; exact Int.le_refl _⟩
theorem Bal.append {a b : List UInt8} (ha : Bal a) (hb : Bal b) : Bal (a ++ b) := by
  refine ⟨by rw [dl_append, ha.1, hb.1]; rfl, fun i => ?_⟩
  rw [List.take_append, dl_append]
  have h1 := ha.2 i
  have h2 := hb.2 (i - a.length)
  omega
theorem Bal.nil : Bal [] := ⟨rfl, fun i => by simp [dl]⟩
/-- One group with k pairs. -/
def Grp (l : List UInt8) (k : Nat) : Prop := ∃ m, l = 40 :: (m ++ [41]) ∧ Bal m ∧ op m + 1 = k
theorem Grp.facts {l : List UInt8} {k : Nat} (h : Grp l k) : 2 ≤ l.length ∧ l.getD 0 0 = 40 ∧ l.getD (l.length - 1) 0 = 41 ∧ dl l = 0 ∧ op l = k ∧ ∀ i, 1 ≤ i → i < l.length → 0 < dl (l.take i) := by
  obtain ⟨m, rfl, hm, hk⟩ := h
  refine ⟨by simp, rfl, ?_, ?_, ?_, ?_⟩
  · simp
  · rw [dl, dl_append, hm.1]; rfl
  · rw [op, op_append, if_pos rfl]; simp [op]; omega
  · intro i h1 h2
    obtain ⟨j, rfl⟩ : ∃ j, i = j + 1 := ⟨i - 1, by omega⟩
    simp at h2
    rw [List.take_succ_cons, dl, List.take_append_of_le_length (by omega)]
    have := hm.2 j
    have e : step 40 = 1 := rfl
    rw [e]
    omega
theorem Grp.bal {l : List UInt8} {k : Nat} (h : Grp l k) : Bal l ∧ op l = k := by
  have hf := h.facts
  refine ⟨⟨hf.2.2.2.1, fun i => ?_⟩, hf.2.2.2.2.1⟩
  by_cases h0 : i = 0
  · subst h0; simp [dl]
  · by_cases h1 : i < l.length
    · have := hf.2.2.2.2.2 i (by omega) h1; omega
    · rw [List.take_of_length_le (by omega), hf.2.2.2.1]; exact Int.le_refl _

/-! ### Chains. -/
inductive Ex where
  | two (a b : ByteArray) (t : Int)
  | left (l : Ex) (b : ByteArray) (t : Int)
  | right (a : ByteArray) (r : Ex) (t : Int)
def tk (t : Int) : ByteArray := ⟨(tokName t).toArray⟩
def wrapT (L T R : ByteArray) : ByteArray := ⟨#[40]⟩ ++ L ++ ⟨#[32]⟩ ++ T ++ ⟨#[32]⟩ ++ R ++ ⟨#[41]⟩
def Ex.tx : Ex → ByteArray
  | .two a b t => wrapT a (tk t) b
  | .left l b t => wrapT l.tx (tk t) b
  | .right a r t => wrapT a (tk t) r.tx
def Ex.pairs : Ex → Nat
  | .two _ _ _ => 1
  | .left l _ _ => l.pairs + 1
  | .right _ r _ => r.pairs + 1
/-- A token with a short name that holds no parenthesis. -/
def Tk (t : Int) : Prop := tokName t ≠ [] ∧ (tokName t).length ≤ 2 ∧ Flat (tokName t)
def Lf (a : ByteArray) : Prop := a.size ≤ 1048576 ∧ Flat a.data.toList
def Ex.ok : Ex → Prop
  | .two a b t => Lf a ∧ Lf b ∧ Tk t
  | .left l b t => l.ok ∧ Lf b ∧ Tk t
  | .right a r t => Lf a ∧ r.ok ∧ Tk t
theorem wrapT_list (L T R : ByteArray) : (wrapT L T R).data.toList = 40 :: ((L.data.toList ++ ([32] ++ (T.data.toList ++ ([32] ++ R.data.toList)))) ++ [41]) := by
  unfold wrapT
  simp [ByteArray.data_append]
theorem wrapT_size (L T R : ByteArray) : (wrapT L T R).size = L.size + T.size + R.size + 4 := by
  unfold wrapT
  simp only [ByteArray.size_append]
  show 1 + L.size + 1 + T.size + 1 + R.size + 1 = _
  omega
theorem tk_size (t : Int) : (tk t).size = (tokName t).length := by show (tokName t).toArray.size = _; simp
theorem flat_space : Flat [32] := by intro c hc; simp at hc; subst hc; decide
theorem wrapT_grp {L T R : ByteArray} {a b : Nat} (hL : Bal L.data.toList ∧ op L.data.toList = a) (hT : Flat T.data.toList) (hR : Bal R.data.toList ∧ op R.data.toList = b) : Grp (wrapT L T R).data.toList (a + b + 1) := by
  refine ⟨_, wrapT_list L T R, hL.1.append (flat_space.bal.append (hT.bal.append (flat_space.bal.append hR.1))), ?_⟩
  rw [op_append, op_append, op_append, op_append, hL.2, hR.2, hT.zero.2, flat_space.zero.2]
  omega
theorem Lf.bal {a : ByteArray} (h : Lf a) : Bal a.data.toList ∧ op a.data.toList = 0 := ⟨h.2.bal, h.2.zero.2⟩
theorem Tk.flat {t : Int} (h : Tk t) : Flat (tk t).data.toList := h.2.2
theorem Ex.grp : ∀ {e : Ex}, e.ok → Grp e.tx.data.toList e.pairs
  | .two a b t, h => by have := wrapT_grp h.1.bal h.2.2.flat h.2.1.bal; simpa [Ex.tx, Ex.pairs] using this
  | .left l b t, h => by have := wrapT_grp (Ex.grp h.1).bal h.2.2.flat h.2.1.bal; simpa [Ex.tx, Ex.pairs] using this
  | .right a r t, h => by have := wrapT_grp h.1.bal h.2.2.flat (Ex.grp h.2.1).bal; simpa [Ex.tx, Ex.pairs] using this
theorem Ex.size : ∀ {e : Ex}, e.ok → e.tx.size ≤ (e.pairs + 1) * 1048590
  | .two a b t, h => by
    have h1 := h.1.1; have h2 := h.2.1.1; have h3 := h.2.2.2.1
    rw [Ex.tx, wrapT_size, tk_size, Ex.pairs]; omega
  | .left l b t, h => by
    have h1 := Ex.size h.1; have h2 := h.2.1.1; have h3 := h.2.2.2.1
    rw [Ex.tx, wrapT_size, tk_size, Ex.pairs]; omega
  | .right a r t, h => by
    have h1 := h.1.1; have h2 := Ex.size h.2.1; have h3 := h.2.2.2.1
    rw [Ex.tx, wrapT_size, tk_size, Ex.pairs]; omega

/-! ### The two chains. -/
def leftE (ss : Nat → ByteArray) (ts : Nat → Int) : Nat → Ex
  | 0 => .two (ss 0) (ss 1) (ts 0)
  | k + 1 => .left (leftE ss ts k) (ss (k + 2)) (ts (k + 1))
def rightE (ss : Nat → ByteArray) (ts : Nat → Int) (n : Nat) : Nat → Ex
  | 0 => .two (ss (n - 2)) (ss (n - 1)) (ts (n - 2))
  | k + 1 => .right (ss (n - 3 - k)) (rightE ss ts n k) (ts (n - 3 - k))
theorem leftE_ok {ss : Nat → ByteArray} {ts : Nat → Int} (hs : ∀ j, Lf (ss j)) (ht : ∀ j, Tk (ts j)) : ∀ k, (leftE ss ts k).ok ∧ (leftE ss ts k).pairs = k + 1
  | 0 => ⟨⟨hs _, hs _, ht _⟩, rfl⟩
  | k + 1 => ⟨⟨(leftE_ok hs ht k).1, hs _, ht _⟩, by rw [leftE, Ex.pairs, (leftE_ok hs ht k).2]⟩
theorem rightE_ok {ss : Nat → ByteArray} {ts : Nat → Int} (n : Nat) (hs : ∀ j, Lf (ss j)) (ht : ∀ j, Tk (ts j)) : ∀ k, (rightE ss ts n k).ok ∧ (rightE ss ts n k).pairs = k + 1
  | 0 => ⟨⟨hs _, hs _, ht _⟩, rfl⟩
  | k + 1 => ⟨⟨hs _, (rightE_ok n hs ht k).1, ht _⟩, by rw [rightE, Ex.pairs, (rightE_ok n hs ht k).2]⟩
theorem same_two (ss : Nat → ByteArray) (ts : Nat → Int) : (leftE ss ts 0).tx = (rightE ss ts 2 0).tx := rfl
theorem left_second {l : Ex} {b : ByteArray} {t : Int} (h : l.ok) : (Ex.left l b t).tx.data.toList.getD 1 0 = 40 := by
  rw [Ex.tx, wrapT_list]
  obtain ⟨m, e, _⟩ := Ex.grp h
  rw [e]
  rfl
theorem right_second {a : ByteArray} {r : Ex} {t : Int} (h : Lf a) : (Ex.right a r t).tx.data.toList.getD 1 0 ≠ 40 := by
  rw [Ex.tx, wrapT_list]
  have hf := h.2
  cases ha : a.data.toList with
  | nil => simp
  | cons c l =>
    rw [ha] at hf
    have := hf c (by simp)
    simpa using this.1
theorem chains_ne {ss : Nat → ByteArray} {ts : Nat → Int} (hs : ∀ j, Lf (ss j)) (ht : ∀ j, Tk (ts j)) (n k m : Nat) : (leftE ss ts (k + 1)).tx ≠ (rightE ss ts n (m + 1)).tx := by
  intro e
  have h1 := left_second (l := leftE ss ts k) (b := ss (k + 2)) (t := ts (k + 1)) (leftE_ok hs ht k).1
  have h2 := right_second (r := rightE ss ts n m) (t := ts (n - 3 - m)) (hs (n - 3 - m))
  apply h2
  rw [← h1]
  exact congrArg (fun b => b.data.toList.getD 1 0) e.symm
end Go.Proofs.YtpniflbleihdoaaDoor.Bin
