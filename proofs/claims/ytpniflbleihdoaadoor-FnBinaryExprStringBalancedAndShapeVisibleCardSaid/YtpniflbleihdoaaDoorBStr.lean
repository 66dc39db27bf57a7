/-
  Proved: (*BinaryExpr).String over a chain in memory gives the chain's text.
  Conditions: at most 300 operators; token.tokens starts as the program's text lays it.
-/
import Derived.Test.YtpniflbleihdoaaDoorBPlain
import Derived.Deep.QuietTactic
import Derived.BigQuiet
namespace Go.Proofs.YtpniflbleihdoaaDoor.Bin
open Go.ChangeShapes Go.WideShapes Go.ChangeAt Go.RowKit Go.Lib Core
set_option linter.unusedVariables false

def ptr (g : Nat) : Value := .pointer (some ⟨g, 0, none⟩)
/-- An identifier behind block b. -/
def Leaf (w : World) (B b : Nat) (s : ByteArray) : Prop := B ≤ b ∧ w.cell? ⟨b, 0, none⟩ = some (.string s)
/-- The chain behind block g; all its blocks are from B on. -/
def InM (w : World) (B : Nat) : Ex → Nat → Prop
  | .two a b t, g => B ≤ g ∧ ∃ ga gb, w.cell? ⟨g, 0, none⟩ = some (.iface 55 (.pointer (some ⟨ga, 0, none⟩))) ∧ w.cell? ⟨g, 1, none⟩ = some (.iface 55 (.pointer (some ⟨gb, 0, none⟩))) ∧ w.cell? ⟨g, 2, none⟩ = some (.int .i64 t) ∧ Leaf w B ga a ∧ Leaf w B gb b
  | .left l b t, g => B ≤ g ∧ ∃ ga gb, w.cell? ⟨g, 0, none⟩ = some (.iface 40 (.pointer (some ⟨ga, 0, none⟩))) ∧ w.cell? ⟨g, 1, none⟩ = some (.iface 55 (.pointer (some ⟨gb, 0, none⟩))) ∧ w.cell? ⟨g, 2, none⟩ = some (.int .i64 t) ∧ InM w B l ga ∧ Leaf w B gb b
  | .right a r t, g => B ≤ g ∧ ∃ ga gb, w.cell? ⟨g, 0, none⟩ = some (.iface 55 (.pointer (some ⟨ga, 0, none⟩))) ∧ w.cell? ⟨g, 1, none⟩ = some (.iface 40 (.pointer (some ⟨gb, 0, none⟩))) ∧ w.cell? ⟨g, 2, none⟩ = some (.int .i64 t) ∧ Leaf w B ga a ∧ InM w B r gb
theorem Leaf.keep {w w' : World} {B b : Nat} {s : ByteArray} {gs : List Nat} (h : Leaf w B b s) (ho : Only w w' gs) (hg : ∀ x ∈ gs, x < B) : Leaf w' B b s :=
  ⟨h.1, ho.cell h.2 (fun hm => by have h1 : b < B := hg _ hm; have := h.1; omega)⟩
theorem InM.keep {w w' : World} {B : Nat} {gs : List Nat} (ho : Only w w' gs) (hg : ∀ x ∈ gs, x < B) : ∀ {e : Ex} {g : Nat}, InM w B e g → InM w' B e g
  | .two a b t, g, ⟨h0, ga, gb, h1, h2, h3, h4, h5⟩ => by
    have out : g ∉ gs := fun hm => by have := hg _ hm; omega
    exact ⟨h0, ga, gb, ho.cell h1 out, ho.cell h2 out, ho.cell h3 out, h4.keep ho hg, h5.keep ho hg⟩
  | .left l b t, g, ⟨h0, ga, gb, h1, h2, h3, h4, h5⟩ => by
    have out : g ∉ gs := fun hm => by have := hg _ hm; omega
    exact ⟨h0, ga, gb, ho.cell h1 out, ho.cell h2 out, ho.cell h3 out, InM.keep ho hg h4, h5.keep ho hg⟩
  | .right a r t, g, ⟨h0, ga, gb, h1, h2, h3, h4, h5⟩ => by
    have out : g ∉ gs := fun hm => by have := hg _ hm; omega
    exact ⟨h0, ga, gb, ho.cell h1 out, ho.cell h2 out, ho.cell h3 out, h4.keep ho hg, InM.keep ho hg h5⟩

theorem meth_id (a : Addr) (w : World) : (method 271 55 (.pointer (some a)) "String").run Tryd.prog w = .ok (102, .pointer (some a)) w := by kernel_rfl
theorem meth_bin (a : Addr) (w : World) : (method 271 40 (.pointer (some a)) "String").run Tryd.prog w = .ok (18, .pointer (some a)) w := by kernel_rfl
theorem ident_str (b : Nat) (s : ByteArray) (w : World) (h : w.cell? ⟨b, 0, none⟩ = some (.string s)) : Calls Tryd.prog 102 #[.pointer (some ⟨b, 0, none⟩)] w fun e w' => e = .returned (.string s) ∧ w' = w := by
  go_enter Tryd.func102, Tryd.ntmps102
  go_wp2_with fail
  go_ret
  exact ⟨rfl, rfl⟩

set_option maxHeartbeats 1000000 in
theorem node_two (g ga gb : Nat) (L R : ByteArray) (t : Int) (w : World) (h0 : w.cell? ⟨g, 0, none⟩ = some (.iface 55 (.pointer (some ⟨ga, 0, none⟩)))) (h1 : w.cell? ⟨g, 1, none⟩ = some (.iface 55 (.pointer (some ⟨gb, 0, none⟩)))) (h2 : w.cell? ⟨g, 2, none⟩ = some (.int .i64 t))
    (hL : ∀ k, Calls Tryd.prog 102 #[.pointer (some ⟨ga, 0, none⟩)] (w.drewN k) fun e w' => e = .returned (.string L) ∧ ∃ m, w' = (w.drewN k).drewN m) (hR : ∀ k, Calls Tryd.prog 102 #[.pointer (some ⟨gb, 0, none⟩)] (w.drewN k) fun e w' => e = .returned (.string R) ∧ ∃ m, w' = (w.drewN k).drewN m)
    (hT : Tk t) (hN : Names w) (zL : L.size ≤ 1000000000) (zR : R.size ≤ 1000000000) :
    Calls Tryd.prog 18 #[.pointer (some ⟨g, 0, none⟩)] w fun e w' => e = .returned (.string (wrapT L (tk t) R)) ∧ ∃ k, w' = w.drewN k := by
  have m1 := meth_id
  have m2 := meth_bin
  have HL := Lib.hid hL
  have HR := Lib.hid hR
  have HT := Lib.hid (fun k => str_named t (w.drewN k) (hN : Names (w.drewN k)) hT.1)
  have zT : (tk t).size ≤ 2 := by rw [tk_size]; exact hT.2.1
  change Hid (∀ k, Calls Tryd.prog 42 #[.int .i64 t] (w.drewN k) fun e w' => e = .returned (.string (tk t)) ∧ w' = w.drewN k) at HT
  generalize tk t = T at *
  clear hL hR hT hN
  go_enter Tryd.func18, Tryd.ntmps18
  go_wp2_with fail
  go_quiet (first | (go_at_call 42; exact Calls.quiet_of_same (HT.out _)) | (go_at_call_of 102 (Value.pointer (some (Addr.mk ga 0 none))); exact Calls.quiet_of (HL.out _)) | (go_at_call_of 102 (Value.pointer (some (Addr.mk gb 0 none))); exact Calls.quiet_of (HR.out _)))
  go_wp2_with fail
  go_ret
  exact ⟨rfl, _, rfl⟩
set_option maxHeartbeats 1000000 in
theorem node_left (g ga gb : Nat) (L R : ByteArray) (t : Int) (w : World) (h0 : w.cell? ⟨g, 0, none⟩ = some (.iface 40 (.pointer (some ⟨ga, 0, none⟩)))) (h1 : w.cell? ⟨g, 1, none⟩ = some (.iface 55 (.pointer (some ⟨gb, 0, none⟩)))) (h2 : w.cell? ⟨g, 2, none⟩ = some (.int .i64 t))
    (hL : ∀ k, Calls Tryd.prog 18 #[.pointer (some ⟨ga, 0, none⟩)] (w.drewN k) fun e w' => e = .returned (.string L) ∧ ∃ m, w' = (w.drewN k).drewN m) (hR : ∀ k, Calls Tryd.prog 102 #[.pointer (some ⟨gb, 0, none⟩)] (w.drewN k) fun e w' => e = .returned (.string R) ∧ ∃ m, w' = (w.drewN k).drewN m)
    (hT : Tk t) (hN : Names w) (zL : L.size ≤ 1000000000) (zR : R.size ≤ 1000000000) :
    Calls Tryd.prog 18 #[.pointer (some ⟨g, 0, none⟩)] w fun e w' => e = .returned (.string (wrapT L (tk t) R)) ∧ ∃ k, w' = w.drewN k := by
  have m1 := meth_id
  have m2 := meth_bin
  have HL := Lib.hid hL
  have HR := Lib.hid hR
  have HT := Lib.hid (fun k => str_named t (w.drewN k) (hN : Names (w.drewN k)) hT.1)
  have zT : (tk t).size ≤ 2 := by rw [tk_size]; exact hT.2.1
  change Hid (∀ k, Calls Tryd.prog 42 #[.int .i64 t] (w.drewN k) fun e w' => e = .returned (.string (tk t)) ∧ w' = w.drewN k) at HT
  generalize tk t = T at *
  clear hL hR hT hN
  go_enter Tryd.func18, Tryd.ntmps18
  go_wp2_with fail
  go_quiet (first | (go_at_call 42; exact Calls.quiet_of_same (HT.out _)) | (go_at_call_of 18 (Value.pointer (some (Addr.mk ga 0 none))); exact Calls.quiet_of (HL.out _)) | (go_at_call_of 102 (Value.pointer (some (Addr.mk gb 0 none))); exact Calls.quiet_of (HR.out _)))
  go_wp2_with fail
  go_ret
  exact ⟨rfl, _, rfl⟩
set_option maxHeartbeats 1000000 in
theorem node_right (g ga gb : Nat) (L R : ByteArray) (t : Int) (w : World) (h0 : w.cell? ⟨g, 0, none⟩ = some (.iface 55 (.pointer (some ⟨ga, 0, none⟩)))) (h1 : w.cell? ⟨g, 1, none⟩ = some (.iface 40 (.pointer (some ⟨gb, 0, none⟩)))) (h2 : w.cell? ⟨g, 2, none⟩ = some (.int .i64 t))
    (hL : ∀ k, Calls Tryd.prog 102 #[.pointer (some ⟨ga, 0, none⟩)] (w.drewN k) fun e w' => e = .returned (.string L) ∧ ∃ m, w' = (w.drewN k).drewN m) (hR : ∀ k, Calls Tryd.prog 18 #[.pointer (some ⟨gb, 0, none⟩)] (w.drewN k) fun e w' => e = .returned (.string R) ∧ ∃ m, w' = (w.drewN k).drewN m)
    (hT : Tk t) (hN : Names w) (zL : L.size ≤ 1000000000) (zR : R.size ≤ 1000000000) :
    Calls Tryd.prog 18 #[.pointer (some ⟨g, 0, none⟩)] w fun e w' => e = .returned (.string (wrapT L (tk t) R)) ∧ ∃ k, w' = w.drewN k := by
  have m1 := meth_id
  have m2 := meth_bin
  have HL := Lib.hid hL
  have HR := Lib.hid hR
  have HT := Lib.hid (fun k => str_named t (w.drewN k) (hN : Names (w.drewN k)) hT.1)
  have zT : (tk t).size ≤ 2 := by rw [tk_size]; exact hT.2.1
  change Hid (∀ k, Calls Tryd.prog 42 #[.int .i64 t] (w.drewN k) fun e w' => e = .returned (.string (tk t)) ∧ w' = w.drewN k) at HT
  generalize tk t = T at *
  clear hL hR hT hN
  go_enter Tryd.func18, Tryd.ntmps18
  go_wp2_with fail
  go_quiet (first | (go_at_call 42; exact Calls.quiet_of_same (HT.out _)) | (go_at_call_of 102 (Value.pointer (some (Addr.mk ga 0 none))); exact Calls.quiet_of (HL.out _)) | (go_at_call_of 18 (Value.pointer (some (Addr.mk gb 0 none))); exact Calls.quiet_of (HR.out _)))
  go_wp2_with fail
  go_ret
  exact ⟨rfl, _, rfl⟩

theorem same_quiet {f : FuncId} {args : Array Value} {w : World} {v : Value} (h : Calls Tryd.prog f args w fun e w' => e = .returned v ∧ w' = w) : Calls Tryd.prog f args w fun e w' => e = .returned v ∧ ∃ m, w' = w.drewN m := h.mono fun _ _ ⟨he, hw⟩ => ⟨he, 0, hw⟩
theorem expr_str (B : Nat) : ∀ (e : Ex) (g : Nat) (w : World), InM w B e g → Names w → e.ok → e.pairs ≤ 300 → Calls Tryd.prog 18 #[.pointer (some ⟨g, 0, none⟩)] w fun e' w' => e' = .returned (.string e.tx) ∧ ∃ k, w' = w.drewN k
  | .two a b t, g, w, ⟨_, ga, gb, h0, h1, h2, h3, h4⟩, hN, hk, hp => node_two g ga gb a b t w h0 h1 h2 (fun k => same_quiet (ident_str ga a (w.drewN k) h3.2)) (fun k => same_quiet (ident_str gb b (w.drewN k) h4.2)) hk.2.2 hN (by have := hk.1.1; omega) (by have := hk.2.1.1; omega)
  | .left l b t, g, w, ⟨_, ga, gb, h0, h1, h2, h3, h4⟩, hN, hk, hp => by
    have hp' : l.pairs + 1 ≤ 300 := hp
    exact node_left g ga gb l.tx b t w h0 h1 h2 (fun k => expr_str B l ga (w.drewN k) (InM.keep ((Only.refl w []).draws k) (by simp) h3) hN hk.1 (by omega)) (fun k => same_quiet (ident_str gb b (w.drewN k) h4.2)) hk.2.2 hN (by have := Ex.size hk.1; omega) (by have := hk.2.1.1; omega)
  | .right a r t, g, w, ⟨_, ga, gb, h0, h1, h2, h3, h4⟩, hN, hk, hp => by
    have hp' : r.pairs + 1 ≤ 300 := hp
    exact node_right g ga gb a r.tx t w h0 h1 h2 (fun k => same_quiet (ident_str ga a (w.drewN k) h3.2)) (fun k => expr_str B r gb (w.drewN k) (InM.keep ((Only.refl w []).draws k) (by simp) h4) hN hk.2.1 (by omega)) hk.2.2 hN (by have := hk.1.1; omega) (by have := Ex.size hk.2.1; omega)
end Go.Proofs.YtpniflbleihdoaaDoor.Bin
