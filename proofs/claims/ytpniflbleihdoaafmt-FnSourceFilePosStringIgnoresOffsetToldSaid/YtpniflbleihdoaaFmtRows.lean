/-
  No cell of these rows narrows 'for every input' (looked for: loops, veiled, ifaces, maps, wideKeys, modest, calm, conditions, laid).
  DERIVED. THE GIVEN ROWS OF THIS SEAT. 1 by the template 'for every input the law returns true; each argument reads behind the call as it read before'; 0 by the template 'total and deterministic' (their statements: YtpniflbleihdoaaFmtTotals.lean).
  GIVEN WITH THE SEED: the statements are not yours to turn. If you find one false, say at which input.
  Laid BY PROGRAM, IN A SANDBOX (cutbox-rows.mjs): the forced cells as the released guide's own fill.sh prints them over the translation f916b47ee3bbd7b2… (all of the seat's roots in one cut). By AI agents, Wed Nov 11 2026. No macro, syntax, notation, axiom, sorry.
-/
import Derived.Test.YtpniflbleihdoaaFmtChecked
import GoSem.Claim
import GoSem.ClaimJoined
import GoSem.ClaimMapViews
import Derived.JoinedTies
import Derived.KernelRfl
namespace Go.Proofs.YtpniflbleihdoaaFmt
/- THE CELL 'sum', in the pinned program and in every row, IS THE sha256 OF THE DUMP (.gsa) THAT YtpniflbleihdoaaFmtProg.lean LOADS. Nothing in Lean hashes anything: it is a label: what it is worth is what the hold of that sum in a sandbox is worth. -/
noncomputable def Tryf.pinned : Pinned := { name := "ytpniflbleihdoaafmt", sum := "f916b47ee3bbd7b2d27722a828f7c7063659decdac807372e42444b7b9f96924", checked := Tryf.checked }
namespace Rows
def none {H : Type} : Left H := { results := [], args := [] }

/-- 'n002_87.FnSourceFilePosStringIgnoresOffset': WHATEVER THE INPUT: true; the input reads as it did. -/
def fnSourceFilePosStringIgnoresOffsetSpec : ChangeSpec := { name := "fnSourceFilePosStringIgnoresOffset", fn := fun _ => fun
  | [d1, d2, d3, d4, d5, d6] => { results := [.lit (.bool true)], args := [d1, d2, d3, d4, d5, d6] }
  | _ => none }
def fnSourceFilePosStringIgnoresOffsetRow : OpenClaim := { program := "ytpniflbleihdoaafmt", sum := "f916b47ee3bbd7b2d27722a828f7c7063659decdac807372e42444b7b9f96924", func := "github.com/d5/tengo/v2/n002_87.FnSourceFilePosStringIgnoresOffset", spec := "fnSourceFilePosStringIgnoresOffset", stops := ["fmt.Sprintf"], inPlace := ["fmt.Sprintf"], apart := false }
/-- NO THEOREM (fmt's text is open here; it may be false): for the released tool's asking of the row's closed facts alone. THE STATEMENT IS 'FnSourceFilePosStringIgnoresOffsetToldSaid' (YtpniflbleihdoaaFmtCards.lean). -/
def FnSourceFilePosStringIgnoresOffsetFormAsk : Prop := fnSourceFilePosStringIgnoresOffsetRow.holds Tryf.pinned (OpenSpec.ofChange fnSourceFilePosStringIgnoresOffsetSpec)

/-- ITS FALSE NEIGHBOUR: 'it returns false'. Refute it at one input. -/
def fnSourceFilePosStringIgnoresOffsetWrong : ChangeSpec := { name := "fnSourceFilePosStringIgnoresOffset", fn := fun _ => fun
  | [d1, d2, d3, d4, d5, d6] => { results := [.lit (.bool false)], args := [d1, d2, d3, d4, d5, d6] }
  | _ => none }
def FnSourceFilePosStringIgnoresOffsetWrongFormAsk : Prop := fnSourceFilePosStringIgnoresOffsetRow.holds Tryf.pinned (OpenSpec.ofChange fnSourceFilePosStringIgnoresOffsetWrong)

end Rows
end Go.Proofs.YtpniflbleihdoaaFmt
