/-
  No cell of these rows narrows 'for every input' (looked for: loops, veiled, ifaces, maps, wideKeys, modest, calm, conditions, laid).
  DERIVED. THE GIVEN ROWS OF THIS SEAT. 1 by the template 'for every input the law returns true; each argument reads behind the call as it read before'; 0 by the template 'total and deterministic' (their statements: YbulkbjjkFmtTotals.lean).
  GIVEN WITH THE SEED: the statements are not yours to turn. If you find one false, say at which input.
  Laid BY PROGRAM, IN A SANDBOX (cutbox-rows.mjs): the forced cells as the released guide's own fill.sh prints them over the translation c3b2481c00bfac6b… (all of the seat's roots in one cut). By AI agents, Wed Nov 11 2026. No macro, syntax, notation, axiom, sorry.
-/
import Derived.Test.YbulkbjjkFmtChecked
import GoSem.Claim
import GoSem.ClaimJoined
import GoSem.ClaimMapViews
import Derived.JoinedTies
import Derived.KernelRfl
namespace Go.Proofs.YbulkbjjkFmt
/- THE CELL 'sum', in the pinned program and in every row, IS THE sha256 OF THE DUMP (.gsa) THAT YbulkbjjkFmtProg.lean LOADS. Nothing in Lean hashes anything: it is a label: what it is worth is what the hold of that sum in a sandbox is worth. -/
noncomputable def Ybaf.pinned : Pinned := { name := "ybulkbjjkfmt", sum := "c3b2481c00bfac6b327513fe18b95db8f412c37021e4fd6371a2f044a2b4bd40", checked := Ybaf.checked }
namespace Rows
def none {H : Type} : Left H := { results := [], args := [] }

/-- 'jsondb.LawS3013BExact': WHATEVER THE INPUT: true; the input reads as it did. -/
def lawS3013BExactSpec : ChangeSpec := { name := "lawS3013BExact", fn := fun _ => fun
  | [d] => { results := [.lit (.bool true)], args := [d] }
  | _ => none }
def lawS3013BExactRow : OpenClaim := { program := "ybulkbjjkfmt", sum := "c3b2481c00bfac6b327513fe18b95db8f412c37021e4fd6371a2f044a2b4bd40", func := "example.com/tabulae/tabulae/jsondb.LawS3013BExact", spec := "lawS3013BExact", stops := ["fmt.Sprintf"], inPlace := ["fmt.Sprintf"], apart := false }
/-- NO THEOREM (fmt's text is open here; it may be false): for the released tool's asking of the row's closed facts alone. THE STATEMENT IS 'LawS3013BExactToldSaid' (YbulkbjjkFmtCards.lean). -/
def LawS3013BExactFormAsk : Prop := lawS3013BExactRow.holds Ybaf.pinned (OpenSpec.ofChange lawS3013BExactSpec)

/-- ITS FALSE NEIGHBOUR: 'it returns false'. Refute it at one input. -/
def lawS3013BExactWrong : ChangeSpec := { name := "lawS3013BExact", fn := fun _ => fun
  | [d] => { results := [.lit (.bool false)], args := [d] }
  | _ => none }
def LawS3013BExactWrongFormAsk : Prop := lawS3013BExactRow.holds Ybaf.pinned (OpenSpec.ofChange lawS3013BExactWrong)

end Rows
end Go.Proofs.YbulkbjjkFmt
