/-
  No cell of these rows narrows 'for every input' (looked for: loops, veiled, ifaces, maps, wideKeys, modest, calm, conditions, laid).
  DERIVED. THE GIVEN ROWS OF THIS SEAT. 2 by the template 'for every input the law returns true; each argument reads behind the call as it read before'; 0 by the template 'total and deterministic' (their statements: YbulkbywsTotals.lean).
  GIVEN WITH THE SEED: the statements are not yours to turn. If you find one false, say at which input.
  Laid BY PROGRAM, IN A SANDBOX (cutbox-rows.mjs): the forced cells as the released guide's own fill.sh prints them over the translation 8eb56ac9a50a1c3a… (all of the seat's roots in one cut). By AI agents, Wed Nov 11 2026. No macro, syntax, notation, axiom, sorry.
-/
import Derived.Test.YbulkbywsChecked
import GoSem.Claim
import GoSem.ClaimJoined
import GoSem.ClaimMapViews
import Derived.JoinedTies
import Derived.KernelRfl
namespace Go.Proofs.Ybulkbyws
/- THE CELL 'sum', in the pinned program and in every row, IS THE sha256 OF THE DUMP (.gsa) THAT YbulkbywsProg.lean LOADS. Nothing in Lean hashes anything: it is a label: what it is worth is what the hold of that sum in a sandbox is worth. -/
noncomputable def Yba.pinned : Pinned := { name := "ybulkbyws", sum := "8eb56ac9a50a1c3a720c24b2974871007958b71744ac24b4d7ce16ed5aec352f", checked := Yba.checked }
namespace Rows
def none {H : Type} : Left H := { results := [], args := [] }

/-- 'predicate.LawS3762CAgree': WHATEVER THE INPUT: true; the input reads as it did. -/
def lawS3762CAgreeSpec : ChangeSpec := { name := "lawS3762CAgree", fn := fun _ => fun
  | [d1, d2, d3, d4] => { results := [.lit (.bool true)], args := [d1, d2, d3, d4] }
  | _ => none }
def lawS3762CAgreeRow : OpenClaim := { program := "ybulkbyws", sum := "8eb56ac9a50a1c3a720c24b2974871007958b71744ac24b4d7ce16ed5aec352f", func := "example.com/predicate/predicate.LawS3762CAgree", spec := "lawS3762CAgree", apart := false }
def LawS3762CAgreeSaid : Prop := lawS3762CAgreeRow.holds Yba.pinned (OpenSpec.ofChange lawS3762CAgreeSpec)

/-- ITS FALSE NEIGHBOUR: 'it returns false'. Refute it at one input. -/
def lawS3762CAgreeWrong : ChangeSpec := { name := "lawS3762CAgree", fn := fun _ => fun
  | [d1, d2, d3, d4] => { results := [.lit (.bool false)], args := [d1, d2, d3, d4] }
  | _ => none }
def LawS3762CAgreeWrongFalsely : Prop := lawS3762CAgreeRow.holds Yba.pinned (OpenSpec.ofChange lawS3762CAgreeWrong)

/-- 'predicate.LawS3762CReads': WHATEVER THE INPUT: true; the input reads as it did. -/
def lawS3762CReadsSpec : ChangeSpec := { name := "lawS3762CReads", fn := fun _ => fun
  | [d1, d2, d3, d4] => { results := [.lit (.bool true)], args := [d1, d2, d3, d4] }
  | _ => none }
def lawS3762CReadsRow : OpenClaim := { program := "ybulkbyws", sum := "8eb56ac9a50a1c3a720c24b2974871007958b71744ac24b4d7ce16ed5aec352f", func := "example.com/predicate/predicate.LawS3762CReads", spec := "lawS3762CReads", apart := false }
def LawS3762CReadsSaid : Prop := lawS3762CReadsRow.holds Yba.pinned (OpenSpec.ofChange lawS3762CReadsSpec)

/-- ITS FALSE NEIGHBOUR: 'it returns false'. Refute it at one input. -/
def lawS3762CReadsWrong : ChangeSpec := { name := "lawS3762CReads", fn := fun _ => fun
  | [d1, d2, d3, d4] => { results := [.lit (.bool false)], args := [d1, d2, d3, d4] }
  | _ => none }
def LawS3762CReadsWrongFalsely : Prop := lawS3762CReadsRow.holds Yba.pinned (OpenSpec.ofChange lawS3762CReadsWrong)

end Rows
end Go.Proofs.Ybulkbyws
