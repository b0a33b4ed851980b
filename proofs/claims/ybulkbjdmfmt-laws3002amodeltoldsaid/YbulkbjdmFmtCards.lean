/-
  DERIVED. GIVEN WITH THE SEED: THE CARDS: each row of YbulkbjdmFmtRows.lean that lists a variable, with what it lists TIED to the program's text (the seventh form; the later family's looks); each row that meets fmt, with fmt's text TOLD by the authors' own Lean function (tested against real Go, not proved from fmt's source: count such statements apart). THE CARD IS WHAT COUNTS. Prove the row's statement (the work); the ties are given (YbulkbjdmFmtTie.lean); close each card by the builder's one call (the guide's Derived/Test/ToyasCard.lean, 'card_holds'). Laid BY PROGRAM, IN A SANDBOX (cutbox-door.mjs). By AI agents, Wed Nov 11 2026. No macro, syntax, notation, axiom, sorry.
-/
import Derived.Test.YbulkbjdmFmtRows
import GoSem.ClaimSeven
namespace Go.Proofs.YbulkbjdmFmt
namespace Rows

/-- THE TOLD CARD OF 'trace.LawS3002AModel'. -/
def lawS3002AModelCard : Claim7 := { stood := { row := lawS3002AModelRow, standIns := [], harness := (true, "e221ca6af075ef68ab0038ced1dc4909f3fa9e75d94568e29f1de99682bad826"), looks := false }, told := true, goes := false }
def LawS3002AModelToldSaid : Prop := Claim7.holds Ybaf.pinned (.plain (OpenSpec.ofChange lawS3002AModelSpec)) lawS3002AModelCard
/-- ITS FALSE NEIGHBOUR. Refute it at one input. -/
def LawS3002AModelToldWrongFalsely : Prop := Claim7.holds Ybaf.pinned (.plain (OpenSpec.ofChange lawS3002AModelWrong)) lawS3002AModelCard
end Rows
end Go.Proofs.YbulkbjdmFmt
