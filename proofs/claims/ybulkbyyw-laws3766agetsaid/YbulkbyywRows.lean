/-
  No cell of these rows narrows 'for every input' (looked for: loops, veiled, ifaces, maps, wideKeys, modest, calm, conditions, laid).
  DERIVED. THE GIVEN ROWS OF THIS SEAT. 2 by the template 'for every input the law returns true; each argument reads behind the call as it read before'; 0 by the template 'total and deterministic' (their statements: YbulkbyywTotals.lean).
  GIVEN WITH THE SEED: the statements are not yours to turn. If you find one false, say at which input.
  Laid BY PROGRAM, IN A SANDBOX (cutbox-rows.mjs): the forced cells as the released guide's own fill.sh prints them over the translation 97174b0acfd4a6fa… (all of the seat's roots in one cut). By AI agents, Wed Nov 11 2026. No macro, syntax, notation, axiom, sorry.
-/
import Derived.Test.YbulkbyywChecked
import GoSem.Claim
import GoSem.ClaimJoined
import GoSem.ClaimMapViews
import Derived.JoinedTies
import Derived.KernelRfl
namespace Go.Proofs.Ybulkbyyw
/- THE CELL 'sum', in the pinned program and in every row, IS THE sha256 OF THE DUMP (.gsa) THAT YbulkbyywProg.lean LOADS. Nothing in Lean hashes anything: it is a label: what it is worth is what the hold of that sum in a sandbox is worth. -/
noncomputable def Yba.pinned : Pinned := { name := "ybulkbyyw", sum := "97174b0acfd4a6fa44cf07a9a95bd686718e4c22d7eac2ae0670f015d956d0e8", checked := Yba.checked }
namespace Rows
def none {H : Type} : Left H := { results := [], args := [] }

/-- 'weirwork.LawS3766AGet': WHATEVER THE INPUT: true; the input reads as it did. -/
def lawS3766AGetSpec : ChangeSpec := { name := "lawS3766AGet", fn := fun _ => fun
  | [d1, d2, d3, d4, d5] => { results := [.lit (.bool true)], args := [d1, d2, d3, d4, d5] }
  | _ => none }
def lawS3766AGetRow : OpenClaim := { program := "ybulkbyyw", sum := "97174b0acfd4a6fa44cf07a9a95bd686718e4c22d7eac2ae0670f015d956d0e8", func := "example.com/weirwork/weirwork.LawS3766AGet", spec := "lawS3766AGet", inPlace := ["sync/atomic.AddUint64", "sync/atomic.LoadUint64"], apart := false }
def LawS3766AGetSaid : Prop := lawS3766AGetRow.holds Yba.pinned (OpenSpec.ofChange lawS3766AGetSpec)

/-- ITS FALSE NEIGHBOUR: 'it returns false'. Refute it at one input. -/
def lawS3766AGetWrong : ChangeSpec := { name := "lawS3766AGet", fn := fun _ => fun
  | [d1, d2, d3, d4, d5] => { results := [.lit (.bool false)], args := [d1, d2, d3, d4, d5] }
  | _ => none }
def LawS3766AGetWrongFalsely : Prop := lawS3766AGetRow.holds Yba.pinned (OpenSpec.ofChange lawS3766AGetWrong)

/-- 'weirwork.LawS3766AHeldGate': WHATEVER THE INPUT: true; the input reads as it did. -/
def lawS3766AHeldGateSpec : ChangeSpec := { name := "lawS3766AHeldGate", fn := fun _ => fun
  | [d1, d2, d3, d4] => { results := [.lit (.bool true)], args := [d1, d2, d3, d4] }
  | _ => none }
def lawS3766AHeldGateRow : OpenClaim := { program := "ybulkbyyw", sum := "97174b0acfd4a6fa44cf07a9a95bd686718e4c22d7eac2ae0670f015d956d0e8", func := "example.com/weirwork/weirwork.LawS3766AHeldGate", spec := "lawS3766AHeldGate", inPlace := ["sync/atomic.AddUint64", "sync/atomic.LoadUint64"], apart := false }
def LawS3766AHeldGateSaid : Prop := lawS3766AHeldGateRow.holds Yba.pinned (OpenSpec.ofChange lawS3766AHeldGateSpec)

/-- ITS FALSE NEIGHBOUR: 'it returns false'. Refute it at one input. -/
def lawS3766AHeldGateWrong : ChangeSpec := { name := "lawS3766AHeldGate", fn := fun _ => fun
  | [d1, d2, d3, d4] => { results := [.lit (.bool false)], args := [d1, d2, d3, d4] }
  | _ => none }
def LawS3766AHeldGateWrongFalsely : Prop := lawS3766AHeldGateRow.holds Yba.pinned (OpenSpec.ofChange lawS3766AHeldGateWrong)

end Rows
end Go.Proofs.Ybulkbyyw
