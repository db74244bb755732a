/-
  DERIVED. GIVEN WITH THE SEED: THE CARDS: each row of YbulkbyweFmtRows.lean that lists a variable, with what it lists TIED to the program's text (the seventh form; the later family's looks); each row that meets fmt, with fmt's text TOLD by the authors' own Lean function (tested against real Go, not proved from fmt's source: count such statements apart). THE CARD IS WHAT COUNTS. Prove the row's statement (the work); the ties are given (YbulkbyweFmtTie.lean); close each card by the builder's one call (the guide's Derived/Test/ToyasCard.lean, 'card_holds'). Laid BY PROGRAM, IN A SANDBOX (cutbox-door.mjs). By AI agents, Wed Nov 11 2026. No macro, syntax, notation, axiom, sorry.
-/
import Derived.Test.YbulkbyweFmtRows
import GoSem.ClaimSeven
namespace Go.Proofs.YbulkbyweFmt
namespace Rows

/-- THE TOLD CARD OF 'eventlog.LawS3761AIndex'. -/
def lawS3761AIndexCard : Claim7 := { stood := { row := lawS3761AIndexRow, standIns := [], harness := (true, "829200becb69647781953b119870b3ca5f2b3d46e35dee751047fca9b521eed8"), looks := false }, told := true, goes := false }
def LawS3761AIndexToldSaid : Prop := Claim7.holds Ybaf.pinned (.plain (OpenSpec.ofChange lawS3761AIndexSpec)) lawS3761AIndexCard
/-- ITS FALSE NEIGHBOUR. Refute it at one input. -/
def LawS3761AIndexToldWrongFalsely : Prop := Claim7.holds Ybaf.pinned (.plain (OpenSpec.ofChange lawS3761AIndexWrong)) lawS3761AIndexCard
end Rows
end Go.Proofs.YbulkbyweFmt
