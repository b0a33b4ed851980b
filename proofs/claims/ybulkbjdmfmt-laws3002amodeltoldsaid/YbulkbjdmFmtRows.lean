/-
  No cell of these rows narrows 'for every input' (looked for: loops, veiled, ifaces, maps, wideKeys, modest, calm, conditions, laid).
  DERIVED. THE GIVEN ROWS OF THIS SEAT. 1 by the template 'for every input the law returns true; each argument reads behind the call as it read before'; 0 by the template 'total and deterministic' (their statements: YbulkbjdmFmtTotals.lean).
  GIVEN WITH THE SEED: the statements are not yours to turn. If you find one false, say at which input.
  Laid BY PROGRAM, IN A SANDBOX (cutbox-rows.mjs): the forced cells as the released guide's own fill.sh prints them over the translation 426918887e8a566c… (all of the seat's roots in one cut). By AI agents, Wed Nov 11 2026. No macro, syntax, notation, axiom, sorry.
-/
import Derived.Test.YbulkbjdmFmtChecked
import GoSem.Claim
import GoSem.ClaimJoined
import GoSem.ClaimMapViews
import Derived.JoinedTies
import Derived.KernelRfl
namespace Go.Proofs.YbulkbjdmFmt
/- THE CELL 'sum', in the pinned program and in every row, IS THE sha256 OF THE DUMP (.gsa) THAT YbulkbjdmFmtProg.lean LOADS. Nothing in Lean hashes anything: it is a label: what it is worth is what the hold of that sum in a sandbox is worth. -/
noncomputable def Ybaf.pinned : Pinned := { name := "ybulkbjdmfmt", sum := "426918887e8a566cee102573443a64a7936f3cf2bec0185d3ca591b216a0dd4f", checked := Ybaf.checked }
namespace Rows
def none {H : Type} : Left H := { results := [], args := [] }

/-- 'trace.LawS3002AModel': WHATEVER THE INPUT: true; the input reads as it did. -/
def lawS3002AModelSpec : ChangeSpec := { name := "lawS3002AModel", fn := fun _ => fun
  | [d1, d2, d3, d4, d5] => { results := [.lit (.bool true)], args := [d1, d2, d3, d4, d5] }
  | _ => none }
def lawS3002AModelRow : OpenClaim := { program := "ybulkbjdmfmt", sum := "426918887e8a566cee102573443a64a7936f3cf2bec0185d3ca591b216a0dd4f", func := "example.com/causeline/causeline/internal/trace.LawS3002AModel", spec := "lawS3002AModel", stops := ["fmt.errorf"], inPlace := ["fmt.errorf"], apart := false }
/-- NO THEOREM (fmt's text is open here; it may be false): for the released tool's asking of the row's closed facts alone. THE STATEMENT IS 'LawS3002AModelToldSaid' (YbulkbjdmFmtCards.lean). -/
def LawS3002AModelFormAsk : Prop := lawS3002AModelRow.holds Ybaf.pinned (OpenSpec.ofChange lawS3002AModelSpec)

/-- ITS FALSE NEIGHBOUR: 'it returns false'. Refute it at one input. -/
def lawS3002AModelWrong : ChangeSpec := { name := "lawS3002AModel", fn := fun _ => fun
  | [d1, d2, d3, d4, d5] => { results := [.lit (.bool false)], args := [d1, d2, d3, d4, d5] }
  | _ => none }
def LawS3002AModelWrongFormAsk : Prop := lawS3002AModelRow.holds Ybaf.pinned (OpenSpec.ofChange lawS3002AModelWrong)

end Rows
end Go.Proofs.YbulkbjdmFmt
