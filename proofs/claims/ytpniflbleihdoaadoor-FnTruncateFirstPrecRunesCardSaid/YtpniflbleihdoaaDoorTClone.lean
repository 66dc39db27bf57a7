/-
  Proved: zzClone makes a row of its own with the same bytes.
  Conditions: at most two million bytes.
-/
import Derived.Test.YtpniflbleihdoaaDoorTArg
import Derived.IntWalk
import Derived.Lib.LazyBuf
namespace Go.Proofs.YtpniflbleihdoaaDoor.Core
open Go.ChangeShapes Go.WideShapes Go.ChangeAt Go.RowKit
set_option linter.unusedVariables false

set_option maxHeartbeats 1000000 in
theorem clone_some (b o cap : Nat) (sp : Option Nat) (bs : List UInt8) (w : World) (hs : Src w (some ⟨b, o, sp⟩) cap bs) (hn : bs.length ≤ 1048576) :
    Calls Tryd.prog 32 #[.slice (some ⟨b, o, sp⟩) bs.length cap] w (Cloned w bs) := by
  have hmk := run_make_row' (P := Tryd.prog) 31 5 (.int .u8 0) 1 Tryd.underlying31 byteInfo rfl .i64 .i64 bs.length (by omega) (by omega)
  have HS := Lib.hid hs
  clear hs
  have heq : ∀ v : World, (binOp .eql 31 (.slice (some ⟨b, o, sp⟩) bs.length cap) (.slice none 0 0)).run Tryd.prog v = .ok (.bool false) v := fun v => run_eql_slice_nil v _ _ _ _ _ Tryd.underlying31
  go_enter Tryd.func32, Tryd.ntmps32
  go_wp2_with fail
  clear hmk
  go_loopw [4] (fun vi wr => ∃ i : Nat, i ≤ bs.length ∧ vi = .int .i64 i ∧ Hid (Half w wr bs i)) (fun vi _ => bs.length - (intOf vi).toNat)
  case atStart => exact ⟨0, by omega, rfl, Lib.hid (Half.start w bs _)⟩
  case round =>
    obtain ⟨i, hi, rfl, HH⟩ := hrel
    by_cases hlt : i < bs.length
    · have hlt' : (i : Int) < (bs.length : Int) := by omega
      obtain ⟨b', o', e, hc⟩ := (HH.out.old HS.out).2.2 (by omega)
      injection e with e
      injection e with e1 e2 e3
      subst e1 e2 e3
      have hci := hc i hlt
      have hfr := HH.out.free i
      obtain ⟨v, hv⟩ := HH.out.cell hlt
      clear hc
      go_wp2_with fail
      go_roundw
      case rel => exact ⟨i + 1, by omega, by go_num, Lib.hid (HH.out.step hlt)⟩
      case measure => simp [intOf]; omega
    · have hlt' : ¬ (i : Int) < (bs.length : Int) := by omega
      have : i = bs.length := by omega
      subst this
      go_wp2_with fail
      go_ret
      exact HH.out.done (by omega)
theorem clone_any (A : Option Addr) (cap : Nat) (bs : List UInt8) (w : World) (hs : Src w A cap bs) (hN : A = none → bs.length = 0 ∧ cap = 0) (hn : bs.length ≤ 1048576) :
    Calls Tryd.prog 32 #[.slice A bs.length cap] w (Cloned w bs) := by
  cases A with
  | some a => obtain ⟨b, o, sp⟩ := a; exact clone_some b o cap sp bs w hs hn
  | none =>
    obtain ⟨h1, rfl⟩ := hN rfl
    have : bs = [] := List.length_eq_zero_iff.1 h1
    subst this
    show Calls Tryd.prog 32 #[.slice none 0 0] w (Cloned w [])
    have heq : ∀ v : World, (binOp .eql 31 (.slice none 0 0) (.slice none 0 0)).run Tryd.prog v = .ok (.bool true) v := fun v => run_eql_slice_nil v _ _ _ _ _ Tryd.underlying31
    go_enter Tryd.func32, Tryd.ntmps32
    go_wp2_with fail
    go_ret
    exact Cloned.nil w
end Go.Proofs.YtpniflbleihdoaaDoor.Core
