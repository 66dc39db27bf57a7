/-
  Proved: closed facts for a walk over the one call of fmt.Sprintf in scanEscape.
  Conditions: none.
-/
import Derived.Test.YtpdfompeoceklaaFmtProg
import Derived.Stop.CallBack
import Derived.Stop.IfaceNil
import Derived.Stop.FmtTextLaws
import GoSem.ClaimData
namespace Go.Proofs.YtpdfompeoceklaaFmt.FmtF
open Go.Extern.Stop Go.Stop Go.Extern

theorem call (args : Array Value) (w : World) : (callFunc 39 args).run Tryf.prog w = ((FmtStop.sprintf #[9, 99] #[9] args).run Tryf.prog w).andThen fun v w' => .ok (.value v) w' :=
  run_callFunc_extern Tryf.func39 (by kernel_rfl) (by kernel_rfl) (by kernel_rfl) (by kernel_rfl) args w
theorem guard (name : String) (w : World) : (FmtStop.guard name).run Tryf.prog w = .ok () w := by kernel_rfl
theorem printed : FmtStop.printed? ⟨#[105, 108, 108, 101, 103, 97, 108, 32, 99, 104, 97, 114, 97, 99, 116, 101, 114, 32, 37, 35, 85, 32, 105, 110, 32, 101, 115, 99, 97, 112, 101, 32, 115, 101, 113, 117, 101, 110, 99, 101]⟩ 1 = some [(0, 85, true)] := by kernel_rfl
theorem operand (name : String) (x : Int) (w : World) : (FmtStop.operand name false 85 true (.iface 21 (.int .i32 x))).run Tryf.prog w = .ok ([4, 5, 0, 0, 0, 0, 0, 0, 0, 105, 110, 116, 51, 50], Go.Extern.Stop.digits 8 (x % 2 ^ 64).toNat) w := by kernel_rfl
end Go.Proofs.YtpdfompeoceklaaFmt.FmtF
