/-
  No cell of these rows narrows 'for every input' (looked for: loops, veiled, ifaces, maps, wideKeys, modest, calm, conditions, laid).
  DERIVED. THE GIVEN ROWS OF THIS SEAT. 1 by the template 'for every input the law returns true; each argument reads behind the call as it read before'; 0 by the template 'total and deterministic' (their statements: YbulkbyweFmtTotals.lean).
  GIVEN WITH THE SEED: the statements are not yours to turn. If you find one false, say at which input.
  Laid BY PROGRAM, IN A SANDBOX (cutbox-rows.mjs): the forced cells as the released guide's own fill.sh prints them over the translation d0b24c4af030bf5c… (all of the seat's roots in one cut). By AI agents, Wed Nov 11 2026. No macro, syntax, notation, axiom, sorry.
-/
import Derived.Test.YbulkbyweFmtChecked
import GoSem.Claim
import GoSem.ClaimJoined
import GoSem.ClaimMapViews
import Derived.JoinedTies
import Derived.KernelRfl
namespace Go.Proofs.YbulkbyweFmt
/- THE CELL 'sum', in the pinned program and in every row, IS THE sha256 OF THE DUMP (.gsa) THAT YbulkbyweFmtProg.lean LOADS. Nothing in Lean hashes anything: it is a label: what it is worth is what the hold of that sum in a sandbox is worth. -/
noncomputable def Ybaf.pinned : Pinned := { name := "ybulkbywefmt", sum := "d0b24c4af030bf5c6085ca9c356c1fbf6b4706fee9f744f6bdebc3bc8a026bb2", checked := Ybaf.checked }
namespace Rows
def none {H : Type} : Left H := { results := [], args := [] }

/-- 'eventlog.LawS3761AIndex': WHATEVER THE INPUT: true; the input reads as it did. -/
def lawS3761AIndexSpec : ChangeSpec := { name := "lawS3761AIndex", fn := fun _ => fun
  | [d1, d2, d3] => { results := [.lit (.bool true)], args := [d1, d2, d3] }
  | _ => none }
def lawS3761AIndexRow : OpenClaim := { program := "ybulkbywefmt", sum := "d0b24c4af030bf5c6085ca9c356c1fbf6b4706fee9f744f6bdebc3bc8a026bb2", func := "example.com/precedent/precedent/internal/eventlog.LawS3761AIndex", spec := "lawS3761AIndex", stops := ["fmt.Sprintf"], inPlace := ["fmt.Sprintf"], unfollowed := true, recurses := true, apart := false }
/-- NO THEOREM (fmt's text is open here; it may be false): for the released tool's asking of the row's closed facts alone. THE STATEMENT IS 'LawS3761AIndexToldSaid' (YbulkbyweFmtCards.lean). -/
def LawS3761AIndexFormAsk : Prop := lawS3761AIndexRow.holds Ybaf.pinned (OpenSpec.ofChange lawS3761AIndexSpec)

/-- ITS FALSE NEIGHBOUR: 'it returns false'. Refute it at one input. -/
def lawS3761AIndexWrong : ChangeSpec := { name := "lawS3761AIndex", fn := fun _ => fun
  | [d1, d2, d3] => { results := [.lit (.bool false)], args := [d1, d2, d3] }
  | _ => none }
def LawS3761AIndexWrongFormAsk : Prop := lawS3761AIndexRow.holds Ybaf.pinned (OpenSpec.ofChange lawS3761AIndexWrong)

end Rows
end Go.Proofs.YbulkbyweFmt
