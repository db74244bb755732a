/-
  No cell of these rows narrows 'for every input' (looked for: loops, veiled, ifaces, maps, wideKeys, modest, calm, conditions, laid).
  DERIVED. THE GIVEN ROWS OF THIS SEAT. 2 by the template 'for every input the law returns true; each argument reads behind the call as it read before'; 0 by the template 'total and deterministic' (their statements: YbulkbyzyTotals.lean).
  GIVEN WITH THE SEED: the statements are not yours to turn. If you find one false, say at which input.
  Laid BY PROGRAM, IN A SANDBOX (cutbox-rows.mjs): the forced cells as the released guide's own fill.sh prints them over the translation 4151758dae9d003a… (all of the seat's roots in one cut). By AI agents, Wed Nov 11 2026. No macro, syntax, notation, axiom, sorry.
-/
import Derived.Test.YbulkbyzyChecked
import GoSem.Claim
import GoSem.ClaimJoined
import GoSem.ClaimMapViews
import Derived.JoinedTies
import Derived.KernelRfl
namespace Go.Proofs.Ybulkbyzy
/- THE CELL 'sum', in the pinned program and in every row, IS THE sha256 OF THE DUMP (.gsa) THAT YbulkbyzyProg.lean LOADS. Nothing in Lean hashes anything: it is a label: what it is worth is what the hold of that sum in a sandbox is worth. -/
noncomputable def Yba.pinned : Pinned := { name := "ybulkbyzy", sum := "4151758dae9d003ac51dbb05cfd3139ad46d98c3588c0b2e3fb1fbbcb159ed34", checked := Yba.checked }
namespace Rows
def none {H : Type} : Left H := { results := [], args := [] }

/-- 'shogi.LawS3768BCount': WHATEVER THE INPUT: true; the input reads as it did. -/
def lawS3768BCountSpec : ChangeSpec := { name := "lawS3768BCount", fn := fun _ => fun
  | [d1, d2, d3] => { results := [.lit (.bool true)], args := [d1, d2, d3] }
  | _ => none }
def lawS3768BCountRow : OpenClaim := { program := "ybulkbyzy", sum := "4151758dae9d003ac51dbb05cfd3139ad46d98c3588c0b2e3fb1fbbcb159ed34", func := "example.com/sentewire/sentewire/shogi.LawS3768BCount", spec := "lawS3768BCount", apart := false }
def LawS3768BCountSaid : Prop := lawS3768BCountRow.holds Yba.pinned (OpenSpec.ofChange lawS3768BCountSpec)

/-- ITS FALSE NEIGHBOUR: 'it returns false'. Refute it at one input. -/
def lawS3768BCountWrong : ChangeSpec := { name := "lawS3768BCount", fn := fun _ => fun
  | [d1, d2, d3] => { results := [.lit (.bool false)], args := [d1, d2, d3] }
  | _ => none }
def LawS3768BCountWrongFalsely : Prop := lawS3768BCountRow.holds Yba.pinned (OpenSpec.ofChange lawS3768BCountWrong)

/-- 'shogi.LawS3768BInitial': WHATEVER THE INPUT: true; the input reads as it did. -/
def lawS3768BInitialSpec : ChangeSpec := { name := "lawS3768BInitial", fn := fun _ => fun
  | [d] => { results := [.lit (.bool true)], args := [d] }
  | _ => none }
def lawS3768BInitialRow : OpenClaim := { program := "ybulkbyzy", sum := "4151758dae9d003ac51dbb05cfd3139ad46d98c3588c0b2e3fb1fbbcb159ed34", func := "example.com/sentewire/sentewire/shogi.LawS3768BInitial", spec := "lawS3768BInitial", apart := false }
def LawS3768BInitialSaid : Prop := lawS3768BInitialRow.holds Yba.pinned (OpenSpec.ofChange lawS3768BInitialSpec)

/-- ITS FALSE NEIGHBOUR: 'it returns false'. Refute it at one input. -/
def lawS3768BInitialWrong : ChangeSpec := { name := "lawS3768BInitial", fn := fun _ => fun
  | [d] => { results := [.lit (.bool false)], args := [d] }
  | _ => none }
def LawS3768BInitialWrongFalsely : Prop := lawS3768BInitialRow.holds Yba.pinned (OpenSpec.ofChange lawS3768BInitialWrong)

end Rows
end Go.Proofs.Ybulkbyzy
