/-
  No cell of these rows narrows 'for every input' (looked for: loops, veiled, ifaces, maps, wideKeys, modest, calm, conditions, laid).
  DERIVED. THE GIVEN ROWS OF THIS SEAT. 2 by the template 'for every input the law returns true; each argument reads behind the call as it read before'; 0 by the template 'total and deterministic' (their statements: YbulkbjcyTotals.lean).
  GIVEN WITH THE SEED: the statements are not yours to turn. If you find one false, say at which input.
  Laid BY PROGRAM, IN A SANDBOX (cutbox-rows.mjs): the forced cells as the released guide's own fill.sh prints them over the translation cd5ba870170a699a… (all of the seat's roots in one cut). By AI agents, Wed Nov 11 2026. No macro, syntax, notation, axiom, sorry.
-/
import Derived.Test.YbulkbjcyChecked
import GoSem.Claim
import GoSem.ClaimJoined
import GoSem.ClaimMapViews
import Derived.JoinedTies
import Derived.KernelRfl
namespace Go.Proofs.Ybulkbjcy
/- THE CELL 'sum', in the pinned program and in every row, IS THE sha256 OF THE DUMP (.gsa) THAT YbulkbjcyProg.lean LOADS. Nothing in Lean hashes anything: it is a label: what it is worth is what the hold of that sum in a sandbox is worth. -/
noncomputable def Yba.pinned : Pinned := { name := "ybulkbjcy", sum := "cd5ba870170a699ac4d73c2e4ae63dc18bb47b1dfa1850658eec1686a0223108", checked := Yba.checked }
namespace Rows
def none {H : Type} : Left H := { results := [], args := [] }

/-- 'engine.LawS3001ADue': WHATEVER THE INPUT: true; the input reads as it did. -/
def lawS3001ADueSpec : ChangeSpec := { name := "lawS3001ADue", fn := fun _ => fun
  | [d1, d2, d3] => { results := [.lit (.bool true)], args := [d1, d2, d3] }
  | _ => none }
def lawS3001ADueRow : OpenClaim := { program := "ybulkbjcy", sum := "cd5ba870170a699ac4d73c2e4ae63dc18bb47b1dfa1850658eec1686a0223108", func := "example.com/knotwork/knotwork/engine.LawS3001ADue", spec := "lawS3001ADue", inPlace := ["internal/bytealg.Compare"], unfollowed := true, recurses := true, plainKeys := false, apart := false }
def LawS3001ADueSaid : Prop := lawS3001ADueRow.holds Yba.pinned (OpenSpec.ofChange lawS3001ADueSpec)

/-- ITS FALSE NEIGHBOUR: 'it returns false'. Refute it at one input. -/
def lawS3001ADueWrong : ChangeSpec := { name := "lawS3001ADue", fn := fun _ => fun
  | [d1, d2, d3] => { results := [.lit (.bool false)], args := [d1, d2, d3] }
  | _ => none }
def LawS3001ADueWrongFalsely : Prop := lawS3001ADueRow.holds Yba.pinned (OpenSpec.ofChange lawS3001ADueWrong)

/-- 'engine.LawS3001CDue': WHATEVER THE INPUT: true; the input reads as it did. -/
def lawS3001CDueSpec : ChangeSpec := { name := "lawS3001CDue", fn := fun _ => fun
  | [d1, d2, d3] => { results := [.lit (.bool true)], args := [d1, d2, d3] }
  | _ => none }
def lawS3001CDueRow : OpenClaim := { program := "ybulkbjcy", sum := "cd5ba870170a699ac4d73c2e4ae63dc18bb47b1dfa1850658eec1686a0223108", func := "example.com/knotwork/knotwork/engine.LawS3001CDue", spec := "lawS3001CDue", plainKeys := false, apart := false }
def LawS3001CDueSaid : Prop := lawS3001CDueRow.holds Yba.pinned (OpenSpec.ofChange lawS3001CDueSpec)

/-- ITS FALSE NEIGHBOUR: 'it returns false'. Refute it at one input. -/
def lawS3001CDueWrong : ChangeSpec := { name := "lawS3001CDue", fn := fun _ => fun
  | [d1, d2, d3] => { results := [.lit (.bool false)], args := [d1, d2, d3] }
  | _ => none }
def LawS3001CDueWrongFalsely : Prop := lawS3001CDueRow.holds Yba.pinned (OpenSpec.ofChange lawS3001CDueWrong)

end Rows
end Go.Proofs.Ybulkbjcy
