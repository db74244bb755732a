/-
  No cell of these rows narrows 'for every input' (looked for: loops, veiled, ifaces, maps, wideKeys, modest, calm, conditions, laid).
  DERIVED. THE GIVEN ROWS OF THIS SEAT. 1 by the template 'for every input the law returns true; each argument reads behind the call as it read before'; 0 by the template 'total and deterministic' (their statements: YbulkbyweTotals.lean).
  GIVEN WITH THE SEED: the statements are not yours to turn. If you find one false, say at which input.
  Laid BY PROGRAM, IN A SANDBOX (cutbox-rows.mjs): the forced cells as the released guide's own fill.sh prints them over the translation ac127003861dce7f… (all of the seat's roots in one cut). By AI agents, Wed Nov 11 2026. No macro, syntax, notation, axiom, sorry.
-/
import Derived.Test.YbulkbyweChecked
import GoSem.Claim
import GoSem.ClaimJoined
import GoSem.ClaimMapViews
import Derived.JoinedTies
import Derived.KernelRfl
namespace Go.Proofs.Ybulkbywe
/- THE CELL 'sum', in the pinned program and in every row, IS THE sha256 OF THE DUMP (.gsa) THAT YbulkbyweProg.lean LOADS. Nothing in Lean hashes anything: it is a label: what it is worth is what the hold of that sum in a sandbox is worth. -/
noncomputable def Yba.pinned : Pinned := { name := "ybulkbywe", sum := "ac127003861dce7fec8a5a25cc0056778b25c906afaf53ca2856a5000b17ba45", checked := Yba.checked }
namespace Rows
def none {H : Type} : Left H := { results := [], args := [] }

/-- 'eventlog.LawS3761BFirstMatched': WHATEVER THE INPUT: true; the input reads as it did. -/
def lawS3761BFirstMatchedSpec : ChangeSpec := { name := "lawS3761BFirstMatched", fn := fun _ => fun
  | [d1, d2, d3] => { results := [.lit (.bool true)], args := [d1, d2, d3] }
  | _ => none }
def lawS3761BFirstMatchedRow : OpenClaim := { program := "ybulkbywe", sum := "ac127003861dce7fec8a5a25cc0056778b25c906afaf53ca2856a5000b17ba45", func := "example.com/precedent/precedent/internal/eventlog.LawS3761BFirstMatched", spec := "lawS3761BFirstMatched", apart := false }
def LawS3761BFirstMatchedSaid : Prop := lawS3761BFirstMatchedRow.holds Yba.pinned (OpenSpec.ofChange lawS3761BFirstMatchedSpec)

/-- ITS FALSE NEIGHBOUR: 'it returns false'. Refute it at one input. -/
def lawS3761BFirstMatchedWrong : ChangeSpec := { name := "lawS3761BFirstMatched", fn := fun _ => fun
  | [d1, d2, d3] => { results := [.lit (.bool false)], args := [d1, d2, d3] }
  | _ => none }
def LawS3761BFirstMatchedWrongFalsely : Prop := lawS3761BFirstMatchedRow.holds Yba.pinned (OpenSpec.ofChange lawS3761BFirstMatchedWrong)

end Rows
end Go.Proofs.Ybulkbywe
