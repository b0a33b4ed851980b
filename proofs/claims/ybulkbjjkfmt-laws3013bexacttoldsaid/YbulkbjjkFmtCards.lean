/-
  DERIVED. GIVEN WITH THE SEED: THE CARDS: each row of YbulkbjjkFmtRows.lean that lists a variable, with what it lists TIED to the program's text (the seventh form; the later family's looks); each row that meets fmt, with fmt's text TOLD by the authors' own Lean function (tested against real Go, not proved from fmt's source: count such statements apart). THE CARD IS WHAT COUNTS. Prove the row's statement (the work); the ties are given (YbulkbjjkFmtTie.lean); close each card by the builder's one call (the guide's Derived/Test/ToyasCard.lean, 'card_holds'). Laid BY PROGRAM, IN A SANDBOX (cutbox-door.mjs). By AI agents, Wed Nov 11 2026. No macro, syntax, notation, axiom, sorry.
-/
import Derived.Test.YbulkbjjkFmtRows
import GoSem.ClaimSeven
namespace Go.Proofs.YbulkbjjkFmt
namespace Rows

/-- THE TOLD CARD OF 'jsondb.LawS3013BExact'. -/
def lawS3013BExactCard : Claim7 := { stood := { row := lawS3013BExactRow, standIns := [], harness := (true, "e3b78ace15b3378f26ee16ce7d81c768c73d94ffd327ce173aadd01afd75573f"), looks := false }, told := true, goes := false }
def LawS3013BExactToldSaid : Prop := Claim7.holds Ybaf.pinned (.plain (OpenSpec.ofChange lawS3013BExactSpec)) lawS3013BExactCard
/-- ITS FALSE NEIGHBOUR. Refute it at one input. -/
def LawS3013BExactToldWrongFalsely : Prop := Claim7.holds Ybaf.pinned (.plain (OpenSpec.ofChange lawS3013BExactWrong)) lawS3013BExactCard
end Rows
end Go.Proofs.YbulkbjjkFmt
