/-
  No cell of these rows narrows 'for every input' (looked for: loops, veiled, ifaces, maps, wideKeys, modest, calm, conditions, laid).
  DERIVED. THE GIVEN ROWS OF THIS SEAT. 2 by the template 'for every input the law returns true; each argument reads behind the call as it read before'; 0 by the template 'total and deterministic' (their statements: YbulkbvwqTotals.lean).
  GIVEN WITH THE SEED: the statements are not yours to turn. If you find one false, say at which input.
  Laid BY PROGRAM, IN A SANDBOX (cutbox-rows.mjs): the forced cells as the released guide's own fill.sh prints them over the translation ce21345a55461ce2… (all of the seat's roots in one cut). By AI agents, Wed Nov 11 2026. No macro, syntax, notation, axiom, sorry.
-/
import Derived.Test.YbulkbvwqChecked
import GoSem.Claim
import GoSem.ClaimJoined
import GoSem.ClaimMapViews
import Derived.JoinedTies
import Derived.KernelRfl
namespace Go.Proofs.Ybulkbvwq
/- THE CELL 'sum', in the pinned program and in every row, IS THE sha256 OF THE DUMP (.gsa) THAT YbulkbvwqProg.lean LOADS. Nothing in Lean hashes anything: it is a label: what it is worth is what the hold of that sum in a sandbox is worth. -/
noncomputable def Yba.pinned : Pinned := { name := "ybulkbvwq", sum := "ce21345a55461ce255f0684a2e1a9b9ca8fac0b1cca1bbec27e3b5a5bd633fca", checked := Yba.checked }
namespace Rows
def none {H : Type} : Left H := { results := [], args := [] }

/-- 'node.LawS3617CState': WHATEVER THE INPUT: true; the input reads as it did. -/
def lawS3617CStateSpec : ChangeSpec := { name := "lawS3617CState", fn := fun _ => fun
  | [d1, d2] => { results := [.lit (.bool true)], args := [d1, d2] }
  | _ => none }
def lawS3617CStateRow : OpenClaim := { program := "ybulkbvwq", sum := "ce21345a55461ce255f0684a2e1a9b9ca8fac0b1cca1bbec27e3b5a5bd633fca", func := "example.com/slotwheel/slotwheel/node.LawS3617CState", spec := "lawS3617CState", apart := false }
def LawS3617CStateSaid : Prop := lawS3617CStateRow.holds Yba.pinned (OpenSpec.ofChange lawS3617CStateSpec)

/-- ITS FALSE NEIGHBOUR: 'it returns false'. Refute it at one input. -/
def lawS3617CStateWrong : ChangeSpec := { name := "lawS3617CState", fn := fun _ => fun
  | [d1, d2] => { results := [.lit (.bool false)], args := [d1, d2] }
  | _ => none }
def LawS3617CStateWrongFalsely : Prop := lawS3617CStateRow.holds Yba.pinned (OpenSpec.ofChange lawS3617CStateWrong)

/-- 'node.LawS3617CRelease': WHATEVER THE INPUT: true; the input reads as it did. -/
def lawS3617CReleaseSpec : ChangeSpec := { name := "lawS3617CRelease", fn := fun _ => fun
  | [d1, d2, d3] => { results := [.lit (.bool true)], args := [d1, d2, d3] }
  | _ => none }
def lawS3617CReleaseRow : OpenClaim := { program := "ybulkbvwq", sum := "ce21345a55461ce255f0684a2e1a9b9ca8fac0b1cca1bbec27e3b5a5bd633fca", func := "example.com/slotwheel/slotwheel/node.LawS3617CRelease", spec := "lawS3617CRelease", apart := false }
def LawS3617CReleaseSaid : Prop := lawS3617CReleaseRow.holds Yba.pinned (OpenSpec.ofChange lawS3617CReleaseSpec)

/-- ITS FALSE NEIGHBOUR: 'it returns false'. Refute it at one input. -/
def lawS3617CReleaseWrong : ChangeSpec := { name := "lawS3617CRelease", fn := fun _ => fun
  | [d1, d2, d3] => { results := [.lit (.bool false)], args := [d1, d2, d3] }
  | _ => none }
def LawS3617CReleaseWrongFalsely : Prop := lawS3617CReleaseRow.holds Yba.pinned (OpenSpec.ofChange lawS3617CReleaseWrong)

end Rows
end Go.Proofs.Ybulkbvwq
