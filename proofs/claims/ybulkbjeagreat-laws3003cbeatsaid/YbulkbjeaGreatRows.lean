/-
  No cell of these rows narrows 'for every input' (looked for: loops, veiled, ifaces, maps, wideKeys, modest, calm, conditions, laid).
  DERIVED. THE GIVEN ROWS OF THIS SEAT. 1 by the template 'for every input the law returns true; each argument reads behind the call as it read before'; 0 by the template 'total and deterministic' (their statements: YbulkbjeaGreatTotals.lean).
  GIVEN WITH THE SEED: the statements are not yours to turn. If you find one false, say at which input.
  Laid BY PROGRAM, IN A SANDBOX (cutbox-rows.mjs): the forced cells as the released guide's own fill.sh prints them over the translation 499ffba94ed830c0… (all of the seat's roots in one cut). By AI agents, Wed Nov 11 2026. No macro, syntax, notation, axiom, sorry.
-/
import Derived.Test.YbulkbjeaGreatChecked
import GoSem.Claim
import GoSem.ClaimJoined
import GoSem.ClaimMapViews
import Derived.JoinedTies
import Derived.KernelRfl
namespace Go.Proofs.YbulkbjeaGreat
/- THE CELL 'sum', in the pinned program and in every row, IS THE sha256 OF THE DUMP (.gsa) THAT YbulkbjeaGreatProg.lean LOADS. Nothing in Lean hashes anything: it is a label: what it is worth is what the hold of that sum in a sandbox is worth. -/
noncomputable def Ybaz.pinned : Pinned := { name := "ybulkbjeagreat", sum := "499ffba94ed830c0343f5eee8354006c4d407c307669d6edeee51ed8ab63b141", checked := Ybaz.checked }
namespace Rows
def none {H : Type} : Left H := { results := [], args := [] }

/-- 'agent.LawS3003CBeat': WHATEVER THE INPUT: true; the input reads as it did. -/
def lawS3003CBeatSpec : ChangeSpec := { name := "lawS3003CBeat", fn := fun _ => fun
  | [d1, d2, d3, d4] => { results := [.lit (.bool true)], args := [d1, d2, d3, d4] }
  | _ => none }
def lawS3003CBeatRow : OpenClaim := { program := "ybulkbjeagreat", sum := "499ffba94ed830c0343f5eee8354006c4d407c307669d6edeee51ed8ab63b141", func := "example.com/loadwright/loadwright/agent.LawS3003CBeat", spec := "lawS3003CBeat", inPlace := ["(*internal/sync.Mutex).Lock", "internal/race.Disable", "sync/atomic.CompareAndSwapInt32", "internal/race.Enable", "internal/race.Acquire", "(*internal/sync.Mutex).lockSlow", "internal/sync.runtime_canSpin", "internal/sync.runtime_doSpin", "internal/sync.throw", "internal/sync.runtime_nanotime", "internal/sync.runtime_SemacquireMutex", "sync/atomic.AddInt32", "(*internal/sync.Mutex).Unlock", "internal/race.ReleaseMerge", "(*internal/sync.Mutex).unlockSlow", "internal/sync.fatal", "internal/sync.runtime_Semrelease", "(*internal/sync.Mutex).TryLock"], unfollowed := true, recurses := true, plainKeys := false, apart := false }
def LawS3003CBeatSaid : Prop := lawS3003CBeatRow.holds Ybaz.pinned (OpenSpec.ofChange lawS3003CBeatSpec)

/-- ITS FALSE NEIGHBOUR: 'it returns false'. Refute it at one input. -/
def lawS3003CBeatWrong : ChangeSpec := { name := "lawS3003CBeat", fn := fun _ => fun
  | [d1, d2, d3, d4] => { results := [.lit (.bool false)], args := [d1, d2, d3, d4] }
  | _ => none }
def LawS3003CBeatWrongFalsely : Prop := lawS3003CBeatRow.holds Ybaz.pinned (OpenSpec.ofChange lawS3003CBeatWrong)

end Rows
end Go.Proofs.YbulkbjeaGreat
