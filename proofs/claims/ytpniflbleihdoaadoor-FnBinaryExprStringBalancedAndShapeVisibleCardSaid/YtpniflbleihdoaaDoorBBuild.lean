/-
  Proved: zzBuild makes the left and the right chain; the last node is the root.
  Conditions: 2 to 256 names, at least one operator fewer.
-/
import Derived.Test.YtpniflbleihdoaaDoorBClone
import Derived.Maps.AppendAt
import Derived.WalkSpells
namespace Go.Proofs.YtpniflbleihdoaaDoor.Bin
open Go.ChangeShapes Go.WideShapes Go.ChangeAt Go.RowKit Core
set_option linter.unusedVariables false

/-- The chain while it is being built: k nodes so far, the last one behind g. -/
def Bld (w wr : World) (n k : Nat) (e : Ex) (g : Nat) : Prop :=
  ∃ xs : List Value, wr.ownsRow w.heap.size 40 1 (.slice (some ⟨w.heap.size, 0, none⟩) k (n - 1)) k xs ∧ xs.getLast? = some (.pointer (some ⟨g, 0, none⟩)) ∧ InM wr (w.heap.size + 1) e g ∧ Only w wr [] ∧ w.heap.size < wr.heap.size
theorem binInfo : (Tryd.prog.info? 40).map (fun i => (i.zero, i.size, i.bytes)) = some (some (.pointer none), 1, 8) := by kernel_rfl
theorem cell_new_at (X : World) (v : Value) (t : TypeId) (g : Nat) (hg : g = X.heap.size) : ∀ (j : Nat) (u : Value), [v][j]? = some u → (X.alloc (.cells #[v] t)).cell? ((⟨g, 0, none⟩ : Addr).add j) = some u := by
  subst hg
  exact cell_one_new X v t
def idO (s : ByteArray) : Obj := .cells #[.string s, .int .i64 0] 59
def nodeO (a b : Value) (t : Int) : Obj := .cells #[a, b, .int .i64 t, .int .i64 0] 80
def oneO (g : Nat) : Obj := .cells #[.pointer (some ⟨g, 0, none⟩)] 40
theorem node_cells (X : World) (a b : Value) (t : Int) : (X.alloc (nodeO a b t)).cell? ⟨X.heap.size, 0, none⟩ = some a ∧ (X.alloc (nodeO a b t)).cell? ⟨X.heap.size, 1, none⟩ = some b ∧ (X.alloc (nodeO a b t)).cell? ⟨X.heap.size, 2, none⟩ = some (.int .i64 t) :=
  ⟨(Hold.fresh X _ _).cellAt rfl, (Hold.fresh X _ _).cellAt rfl, (Hold.fresh X _ _).cellAt rfl⟩
theorem id_cell (X : World) (s : ByteArray) : (X.alloc (idO s)).cell? ⟨X.heap.size, 0, none⟩ = some (.string s) := (Hold.fresh X _ _).cellAt rfl
theorem one_more (X : World) (o : Obj) : Only X (X.alloc o) [] := (Only.refl X []).fresh o
theorem size_more (X : World) (o : Obj) : (X.alloc o).heap.size = X.heap.size + 1 := by simp

/-- The first node. -/
theorem Bld.first {w X w1 : World} {n : Nat} {a b : ByteArray} {t : Int} {xs : List Value} (hX : Only w X []) (hlt : w.heap.size < X.heap.size)
    (hown : w1.ownsRow w.heap.size 40 1 (.slice (some ⟨w.heap.size, 0, none⟩) 1 (n - 1)) 1 (xs ++ [.pointer (some ⟨X.heap.size + 1 + 1, 0, none⟩)]))
    (hg : ((((X.alloc (idO a)).alloc (idO b)).alloc (nodeO (.iface 55 (.pointer (some ⟨X.heap.size, 0, none⟩))) (.iface 55 (.pointer (some ⟨X.heap.size + 1, 0, none⟩))) t)).alloc (oneO (X.heap.size + 1 + 1))).grownBy w1 (some w.heap.size)) :
    Bld w w1 n 1 (.two a b t) (X.heap.size + 1 + 1) := by
  have o4 := Only.ofGrown (gs := [w.heap.size]) hg (by intro k hk; cases hk; simp)
  have i0 := id_cell X a
  have i1 := id_cell (X.alloc (idO a)) b
  have nd := node_cells ((X.alloc (idO a)).alloc (idO b)) (.iface 55 (.pointer (some ⟨X.heap.size, 0, none⟩))) (.iface 55 (.pointer (some ⟨X.heap.size + 1, 0, none⟩))) t
  simp only [size_more] at i1 nd
  refine ⟨_, hown, by simp, ?_, ?_, ?_⟩
  · refine InM.keep (w := ((X.alloc (idO a)).alloc (idO b)).alloc (nodeO (.iface 55 (.pointer (some ⟨X.heap.size, 0, none⟩))) (.iface 55 (.pointer (some ⟨X.heap.size + 1, 0, none⟩))) t)) (gs := [w.heap.size]) ((one_more _ _).more (by simp) |>.next o4 (by simp)) (by simp) ?_
    refine ⟨by omega, _, _, nd.1, nd.2.1, nd.2.2, ⟨by omega, ?_⟩, ⟨by omega, ?_⟩⟩
    · exact ((one_more _ _).next (one_more _ _) (by simp)).cell i0 (by simp)
    · exact (one_more _ _).cell i1 (by simp)
  · exact ((((hX.fresh _).fresh _).fresh _).fresh _).next o4 (by simp)
  · have := hg.size
    simp only [size_more] at this
    omega
/-- One more node on the left chain. -/
theorem Bld.left {w X w1 : World} {n k : Nat} {e : Ex} {g : Nat} {b : ByteArray} {t : Int} {xs : List Value} (h : Bld w X n k e g)
    (hown : w1.ownsRow w.heap.size 40 1 (.slice (some ⟨w.heap.size, 0, none⟩) (k + 1) (n - 1)) (k + 1) (xs ++ [.pointer (some ⟨X.heap.size + 1, 0, none⟩)]))
    (hg : (((X.alloc (idO b)).alloc (nodeO (.iface 40 (.pointer (some ⟨g, 0, none⟩))) (.iface 55 (.pointer (some ⟨X.heap.size, 0, none⟩))) t)).alloc (oneO (X.heap.size + 1))).grownBy w1 (some w.heap.size)) :
    Bld w w1 n (k + 1) (.left e b t) (X.heap.size + 1) := by
  obtain ⟨_, _, _, hI, hX, hlt⟩ := h
  have o4 := Only.ofGrown (gs := [w.heap.size]) hg (by intro k hk; cases hk; simp)
  have i0 := id_cell X b
  have nd := node_cells (X.alloc (idO b)) (.iface 40 (.pointer (some ⟨g, 0, none⟩))) (.iface 55 (.pointer (some ⟨X.heap.size, 0, none⟩))) t
  simp only [size_more] at nd
  refine ⟨_, hown, by simp, ?_, ?_, ?_⟩
  · refine InM.keep (w := (X.alloc (idO b)).alloc (nodeO (.iface 40 (.pointer (some ⟨g, 0, none⟩))) (.iface 55 (.pointer (some ⟨X.heap.size, 0, none⟩))) t)) (gs := [w.heap.size]) ((one_more _ _).more (by simp) |>.next o4 (by simp)) (by simp) ?_
    refine ⟨by omega, _, _, nd.1, nd.2.1, nd.2.2, InM.keep ((one_more _ _).next (one_more _ _) (by simp)) (by simp) hI, ⟨by omega, ?_⟩⟩
    exact (one_more _ _).cell i0 (by simp)
  · exact (((hX.fresh _).fresh _).fresh _).next o4 (by simp)
  · have := hg.size
    simp only [size_more] at this
    omega
/-- One more node on the right chain. -/
theorem Bld.right {w X w1 : World} {n k : Nat} {e : Ex} {g : Nat} {a : ByteArray} {t : Int} {xs : List Value} (h : Bld w X n k e g)
    (hown : w1.ownsRow w.heap.size 40 1 (.slice (some ⟨w.heap.size, 0, none⟩) (k + 1) (n - 1)) (k + 1) (xs ++ [.pointer (some ⟨X.heap.size + 1, 0, none⟩)]))
    (hg : (((X.alloc (idO a)).alloc (nodeO (.iface 55 (.pointer (some ⟨X.heap.size, 0, none⟩))) (.iface 40 (.pointer (some ⟨g, 0, none⟩))) t)).alloc (oneO (X.heap.size + 1))).grownBy w1 (some w.heap.size)) :
    Bld w w1 n (k + 1) (.right a e t) (X.heap.size + 1) := by
  obtain ⟨_, _, _, hI, hX, hlt⟩ := h
  have o4 := Only.ofGrown (gs := [w.heap.size]) hg (by intro k hk; cases hk; simp)
  have i0 := id_cell X a
  have nd := node_cells (X.alloc (idO a)) (.iface 55 (.pointer (some ⟨X.heap.size, 0, none⟩))) (.iface 40 (.pointer (some ⟨g, 0, none⟩))) t
  simp only [size_more] at nd
  refine ⟨_, hown, by simp, ?_, ?_, ?_⟩
  · refine InM.keep (w := (X.alloc (idO a)).alloc (nodeO (.iface 55 (.pointer (some ⟨X.heap.size, 0, none⟩))) (.iface 40 (.pointer (some ⟨g, 0, none⟩))) t)) (gs := [w.heap.size]) ((one_more _ _).more (by simp) |>.next o4 (by simp)) (by simp) ?_
    refine ⟨by omega, _, _, nd.1, nd.2.1, nd.2.2, ⟨by omega, ?_⟩, InM.keep ((one_more _ _).next (one_more _ _) (by simp)) (by simp) hI⟩
    exact (one_more _ _).cell i0 (by simp)
  · exact (((hX.fresh _).fresh _).fresh _).next o4 (by simp)
  · have := hg.size
    simp only [size_more] at this
    omega
/-- What is left when all are built. -/
def Built (w : World) (n : Nat) (E : Ex) (e : Ending) (w' : World) : Prop :=
  ∃ G g, e = .returned (.slice (some ⟨G, 0, none⟩) (n - 1) (n - 1)) ∧ w'.cell? ⟨G, n - 2, none⟩ = some (.pointer (some ⟨g, 0, none⟩)) ∧ InM w' (w.heap.size + 1) E g ∧ Only w w' []
theorem Bld.done {w wr : World} {n : Nat} {e : Ex} {g : Nat} (h : Bld w wr n (n - 1) e g) (hn : 2 ≤ n) : Built w n e (.returned (.slice (some ⟨w.heap.size, 0, none⟩) (n - 1) (n - 1))) wr := by
  obtain ⟨xs, h1, h2, h3, h4, _⟩ := h
  refine ⟨_, g, rfl, ?_, h3, h4⟩
  have hl : xs.length = n - 1 := by simpa using h1.1
  have := h1.cells (g := w.heap.size) rfl (n - 2) (.pointer (some ⟨g, 0, none⟩)) (by
    rw [List.getLast?_eq_getElem?, hl] at h2
    rw [← h2]
    congr 1)
  rw [Addr.add_lit, Nat.zero_add] at this
  exact this

set_option maxHeartbeats 4000000 in
set_option maxRecDepth 20000 in
theorem build_left (bn bo n m cn co : Nat) (ss : Nat → ByteArray) (zs : Nat → Int) (w : World) (hs : Run w bn 0 n fun j => .string (ss j)) (hz : Run w bo 0 m fun j => .int .i64 (zs j)) (hr : ∀ j, -9223372036854775808 ≤ zs j ∧ zs j ≤ 9223372036854775807) (hn : 2 ≤ n) (hn2 : n ≤ 256) (hm : n - 1 ≤ m) (hm2 : m ≤ 4096) :
    Calls Tryd.prog 17 #[.slice (some ⟨bn, 0, none⟩) n cn, .slice none 0 0, .slice (some ⟨bo, 0, none⟩) m co, .bool false] w (Built w n (leftE ss (fun j => opAt (zs j)) (n - 2))) := by
  obtain ⟨i0, hi0, hz0, hz1, hz2⟩ := info_parts binInfo
  have HI := Lib.hid hi0
  have HZ0 := Lib.hid hz0
  have HZ1 := Lib.hid hz1
  have HZ2 := Lib.hid hz2
  have HS := Lib.hid hs
  have HZ := Lib.hid hz
  have HR := Lib.hid hr
  clear hi0 hz0 hz1 hz2 hr
  have hw64 : wrap64 ((n : Int) - 1) = ((n - 1 : Nat) : Int) := by unfold wrap64; omega
  have hnm : (n : Int) - 1 = ((n - 1 : Nat) : Int) := by omega
  have o0 := hz 0 (by omega)
  simp only [Nat.add_zero] at o0
  have j0 : (0 : Int) < (m : Int) := by omega
  clear hs hz
  go_enter Tryd.func17, Tryd.ntmps17
  go_wp2_with (first
    | (at_make; refine wpList_make_own _ rfl _ _ 38 rfl w.heap.size 40 i0 (.pointer none) 1 Tryd.underlying38 HI.out HZ0.out HZ1.out _ _ _ (n - 1) rfl rfl (by first | exact hw64 | exact hnm | omega) (by rw [HZ2.out]; omega) (by unfold maxLen; omega) (Nat.le_refl _) ?_; intro X hownX hgX
       have hX : Only w X [] := Only.ofGrown hgX (by intro k hk; cases hk)
       have oX : X.cell? ⟨bo, 0, none⟩ = some (.int .i64 (zs 0)) := hX.cell o0 (by simp)
       have OWX := Lib.hid hownX
       have OX := Lib.hid hX
       clear hownX hgX hX))
  have hXlt : w.heap.size < X.heap.size := by
    rcases OWX.out.2 with ⟨e, _⟩ | ⟨g, cap, cur, e, _, hh, _⟩
    · cases e
    · injection e with e1
      injection e1 with e1
      injection e1 with e1
      subst e1
      exact (Array.getElem?_eq_some_iff.1 hh).1
  refine (op_any (zs 0) X (HR.out _).1 (HR.out _).2).mono ?_
  rintro e y ⟨⟨sx, rfl⟩, rfl⟩
  clear oX
  go_wp2_with fail
  refine (ident_at bn n cn 0 0 ss X (by omega) (HS.out.keep OX.out (by simp)) (by omega) (by omega)).mono ?_
  rintro e y ⟨rfl, rfl⟩
  go_wp2_with fail
  refine (ident_at bn n cn 1 1 ss _ (by omega) (HS.out.keep (OX.out.fresh _) (by simp)) (by omega) (by omega)).mono ?_
  rintro e y ⟨rfl, rfl⟩
  go_wp2_with (at_builtin; refine wpList_append_fits _ rfl _ _ 38 rfl w.heap.size 40 i0 1 Tryd.underlying38 HI.out HZ1.out w.heap.size 0 (n - 1) [] rfl ((((OWX.out.alloc _).alloc _).alloc _).alloc _) ⟨X.heap.size + 1 + 1 + 1, 0, none⟩ 1 1 [.pointer (some ⟨X.heap.size + 1 + 1, 0, none⟩)] rfl rfl ?c1 ?c2 (by omega) ?_)
  case c1 => exact cell_new_at _ _ _ _ (by simp)
  case c2 => intro u hu; simp at hu; subst hu; rfl
  intro w1 hown1 hg1
  have BL := Lib.hid (Bld.first (xs := []) (n := n) (a := ss 0) (b := ss 1) (t := opAt (zs 0)) OX.out hXlt hown1 hg1)
  clear hown1 hg1 OX OWX
  go_wp2_with fail
  go_loopw [10, 13, 14] (fun v10 v13 v14 wr => ∃ k g : Nat, k + 2 ≤ n ∧ v14 = .int .i64 ((k + 2 : Nat) : Int) ∧ v13 = .pointer (some ⟨g, 0, none⟩) ∧ v10 = .slice (some ⟨w.heap.size, 0, none⟩) (k + 1) (n - 1) ∧ Hid (Bld w wr n (k + 1) (leftE ss (fun j => opAt (zs j)) k) g)) (fun _ _ vi _ => n - (intOf vi).toNat)
  case atStart => exact ⟨0, _, by omega, rfl, rfl, rfl, BL⟩
  case round =>
    obtain ⟨k, g, hk, rfl, rfl, rfl, HB⟩ := hrel
    obtain ⟨xs, hown, hlast, hI, hO, hlt2⟩ := HB.out
    have OW := Lib.hid hown
    have OO := Lib.hid hO
    clear hown hlast hI hO
    by_cases hlt : k + 2 < n
    · have hlt' : ((k + 2 : Nat) : Int) < (n : Int) := by omega
      have oc := OO.out.cell (HZ.out (k + 1) (by omega)) (by simp)
      rw [Nat.zero_add] at oc
      have e1 : ((k + 2 : Nat) : Int) - 1 = ((k + 1 : Nat) : Int) := by omega
      have e2 : ((k + 1 : Nat) : Int) < (m : Int) := by omega
      go_wp2_with fail
      refine (op_any (zs (k + 1)) wr (HR.out _).1 (HR.out _).2).mono ?_
      rintro e y ⟨⟨sx2, rfl⟩, rfl⟩
      go_wp2_with fail
      refine (ident_at bn n cn ((k : Int) + 2) (k + 2) ss wr (by omega) (HS.out.keep OO.out (by simp)) (by omega) (by omega)).mono ?_
      rintro e y ⟨rfl, rfl⟩
      go_wp2_with (at_builtin; refine wpList_append_fits _ rfl _ _ 38 rfl w.heap.size 40 i0 1 Tryd.underlying38 HI.out HZ1.out w.heap.size (k + 1) (n - 1) xs rfl (((OW.out.alloc _).alloc _).alloc _) ⟨wr.heap.size + 1 + 1, 0, none⟩ 1 1 [.pointer (some ⟨wr.heap.size + 1, 0, none⟩)] rfl rfl ?d1 ?d2 (by omega) ?_)
      case d1 => exact cell_new_at _ _ _ _ (by simp)
      case d2 => intro u hu; simp at hu; subst hu; rfl
      intro w2 hown2 hg2
      have BL2 := Lib.hid (Bld.left (xs := xs) (n := n) (b := ss (k + 2)) (t := opAt (zs (k + 1))) HB.out hown2 hg2)
      clear hown2 hg2
      go_wp2_with fail
      go_roundw
      case rel => exact ⟨k + 1, _, by omega, by go_num, rfl, by rfl, BL2⟩
      case measure => simp [intOf]; omega
    · have hlt' : ¬ ((k + 2 : Nat) : Int) < (n : Int) := by omega
      have hkn : Hid (n - 1 = k + 1) := Lib.hid (by omega)
      have hkn2 : Hid (n - 2 = k) := Lib.hid (by omega)
      go_wp2_with fail
      go_ret
      have := HB.out
      rw [← hkn.out, ← hkn2.out] at this
      have e := this.done hn
      have e3 : k + 1 = n - 1 := by omega
      rw [← e3] at e ⊢
      exact e

set_option maxHeartbeats 4000000 in
set_option maxRecDepth 20000 in
theorem build_right (bn bo n m cn co : Nat) (ss : Nat → ByteArray) (zs : Nat → Int) (w : World) (hs : Run w bn 0 n fun j => .string (ss j)) (hz : Run w bo 0 m fun j => .int .i64 (zs j)) (hr : ∀ j, -9223372036854775808 ≤ zs j ∧ zs j ≤ 9223372036854775807) (hn : 2 ≤ n) (hn2 : n ≤ 256) (hm : n - 1 ≤ m) (hm2 : m ≤ 4096) :
    Calls Tryd.prog 17 #[.slice (some ⟨bn, 0, none⟩) n cn, .slice none 0 0, .slice (some ⟨bo, 0, none⟩) m co, .bool true] w (Built w n (rightE ss (fun j => opAt (zs j)) n (n - 2))) := by
  obtain ⟨i0, hi0, hz0, hz1, hz2⟩ := info_parts binInfo
  have HI := Lib.hid hi0
  have HZ0 := Lib.hid hz0
  have HZ1 := Lib.hid hz1
  have HZ2 := Lib.hid hz2
  have HS := Lib.hid hs
  have HZ := Lib.hid hz
  have HR := Lib.hid hr
  clear hi0 hz0 hz1 hz2 hr
  have hw64 : wrap64 ((n : Int) - 1) = ((n - 1 : Nat) : Int) := by unfold wrap64; omega
  have hnm : (n : Int) - 1 = ((n - 1 : Nat) : Int) := by omega
  have o0 := hz (n - 2) (by omega)
  rw [Nat.zero_add] at o0
  have j0 : ((n - 2 : Nat) : Int) < (m : Int) := by omega
  have j1 : (n : Int) - 2 = ((n - 2 : Nat) : Int) := by omega
  clear hs hz
  go_enter Tryd.func17, Tryd.ntmps17
  go_wp2_with (first
    | (at_make; refine wpList_make_own _ rfl _ _ 38 rfl w.heap.size 40 i0 (.pointer none) 1 Tryd.underlying38 HI.out HZ0.out HZ1.out _ _ _ (n - 1) rfl rfl (by first | exact hw64 | exact hnm | omega) (by rw [HZ2.out]; omega) (by unfold maxLen; omega) (Nat.le_refl _) ?_; intro X hownX hgX
       have hX : Only w X [] := Only.ofGrown hgX (by intro k hk; cases hk)
       have oX : X.cell? ⟨bo, n - 2, none⟩ = some (.int .i64 (zs (n - 2))) := hX.cell o0 (by simp)
       have OWX := Lib.hid hownX
       have OX := Lib.hid hX
       clear hownX hgX hX))
  have hXlt : w.heap.size < X.heap.size := by
    rcases OWX.out.2 with ⟨e, _⟩ | ⟨g, cap, cur, e, _, hh, _⟩
    · cases e
    · injection e with e1
      injection e1 with e1
      injection e1 with e1
      subst e1
      exact (Array.getElem?_eq_some_iff.1 hh).1
  refine (op_any (zs (n - 2)) X (HR.out _).1 (HR.out _).2).mono ?_
  rintro e y ⟨⟨sx, rfl⟩, rfl⟩
  clear oX
  go_wp2_with fail
  refine (ident_at bn n cn ((n - 2 : Nat) : Int) (n - 2) ss X (by omega) (HS.out.keep OX.out (by simp)) (by omega) (by omega)).mono ?_
  rintro e y ⟨rfl, rfl⟩
  go_wp2_with fail
  refine (ident_at bn n cn ((n - 1 : Nat) : Int) (n - 1) ss _ (by omega) (HS.out.keep (OX.out.fresh _) (by simp)) (by omega) (by omega)).mono ?_
  rintro e y ⟨rfl, rfl⟩
  go_wp2_with (at_builtin; refine wpList_append_fits _ rfl _ _ 38 rfl w.heap.size 40 i0 1 Tryd.underlying38 HI.out HZ1.out w.heap.size 0 (n - 1) [] rfl ((((OWX.out.alloc _).alloc _).alloc _).alloc _) ⟨X.heap.size + 1 + 1 + 1, 0, none⟩ 1 1 [.pointer (some ⟨X.heap.size + 1 + 1, 0, none⟩)] rfl rfl ?c1 ?c2 (by omega) ?_)
  case c1 => exact cell_new_at _ _ _ _ (by simp)
  case c2 => intro u hu; simp at hu; subst hu; rfl
  intro w1 hown1 hg1
  have BL := Lib.hid (Bld.first (xs := []) (n := n) (a := ss (n - 2)) (b := ss (n - 1)) (t := opAt (zs (n - 2))) OX.out hXlt hown1 hg1)
  clear hown1 hg1 OX OWX
  have j3 : wrap64 ((n : Int) - 3) = (n : Int) - 3 := by unfold wrap64; omega
  go_wp2_with fail
  go_loopw [10, 19, 20] (fun v10 v13 v14 wr => ∃ (k g : Nat) (x : Int), k + 2 ≤ n ∧ v14 = .int .i64 x ∧ x = (n : Int) - 3 - k ∧ v13 = .pointer (some ⟨g, 0, none⟩) ∧ v10 = .slice (some ⟨w.heap.size, 0, none⟩) (k + 1) (n - 1) ∧ Hid (Bld w wr n (k + 1) (rightE ss (fun j => opAt (zs j)) n k) g)) (fun _ _ vi _ => (intOf vi + 1).toNat)
  case atStart => exact ⟨0, _, _, by omega, rfl, by omega, rfl, rfl, BL⟩
  case round =>
    obtain ⟨k, g, x, hk, rfl, hx, rfl, rfl, HB⟩ := hrel
    obtain ⟨xs, hown, hlast, hI, hO, hlt2⟩ := HB.out
    have OW := Lib.hid hown
    have OO := Lib.hid hO
    have HX := Lib.hid hx
    clear hown hlast hI hO
    by_cases hlt : 0 ≤ x
    · obtain ⟨j, hj⟩ : ∃ j : Nat, x = (j : Int) := ⟨x.toNat, by omega⟩
      have hjn : Hid (n - 3 - k = j) := Lib.hid (by omega)
      have hjm : (j : Int) < (m : Int) := by omega
      clear hx
      subst hj
      have hx := HX.out
      have hj2 : j < n := by omega
      have hk3 : k + 1 < n - 1 := by omega
      have oc := OO.out.cell (HZ.out j (by omega)) (by simp)
      rw [Nat.zero_add] at oc
      clear hx
      go_wp2_with fail
      refine (op_any (zs j) wr (HR.out _).1 (HR.out _).2).mono ?_
      rintro e y ⟨⟨sx2, rfl⟩, rfl⟩
      go_wp2_with fail
      refine (ident_at bn n cn (j : Int) j ss wr (by omega) (HS.out.keep OO.out (by simp)) (by omega) (by omega)).mono ?_
      rintro e y ⟨rfl, rfl⟩
      go_wp2_with (at_builtin; refine wpList_append_fits _ rfl _ _ 38 rfl w.heap.size 40 i0 1 Tryd.underlying38 HI.out HZ1.out w.heap.size (k + 1) (n - 1) xs rfl (((OW.out.alloc _).alloc _).alloc _) ⟨wr.heap.size + 1 + 1, 0, none⟩ 1 1 [.pointer (some ⟨wr.heap.size + 1, 0, none⟩)] rfl rfl ?d1 ?d2 (by omega) ?_)
      case d1 => exact cell_new_at _ _ _ _ (by simp)
      case d2 => intro u hu; simp at hu; subst hu; rfl
      intro w2 hown2 hg2
      have BL2 := Lib.hid (Bld.right (xs := xs) (n := n) (a := ss j) (t := opAt (zs j)) HB.out hown2 hg2)
      clear hown2 hg2
      go_wp2_with fail
      go_roundw
      case rel => exact ⟨k + 1, _, _, by omega, rfl, by have := HX.out; omega, rfl, by rfl, by rw [rightE, hjn.out]; exact BL2⟩
      case measure => first | (simp [intOf]; done) | (simp [intOf]; omega)
    · have hlt' : ¬ 0 ≤ x := hlt
      have d : decide (0 ≤ x) = false := decide_eq_false hlt
      have hkn : Hid (n - 1 = k + 1) := Lib.hid (by omega)
      have hkn2 : Hid (n - 2 = k) := Lib.hid (by omega)
      clear hx
      go_wp2_with fail
      go_ret
      have := HB.out
      rw [← hkn.out, ← hkn2.out] at this
      have e := this.done hn
      have hx := HX.out
      have e3 : k + 1 = n - 1 := by omega
      rw [← e3] at e ⊢
      exact e
end Go.Proofs.YtpniflbleihdoaaDoor.Bin
