/-
  No cell of these rows narrows 'for every input' (looked for: loops, veiled, ifaces, maps, wideKeys, modest, calm, conditions, laid).
  DERIVED. THE GIVEN ROWS OF THIS SEAT. 2 by the template 'for every input the law returns true; each argument reads behind the call as it read before'; 0 by the template 'total and deterministic' (their statements: YbulkbvziTotals.lean).
  GIVEN WITH THE SEED: the statements are not yours to turn. If you find one false, say at which input.
  Laid BY PROGRAM, IN A SANDBOX (cutbox-rows.mjs): the forced cells as the released guide's own fill.sh prints them over the translation 42932d36960d9c5e… (all of the seat's roots in one cut). By AI agents, Wed Nov 11 2026. No macro, syntax, notation, axiom, sorry.
-/
import Derived.Test.YbulkbvziChecked
import GoSem.Claim
import GoSem.ClaimJoined
import GoSem.ClaimMapViews
import Derived.JoinedTies
import Derived.KernelRfl
namespace Go.Proofs.Ybulkbvzi
/- THE CELL 'sum', in the pinned program and in every row, IS THE sha256 OF THE DUMP (.gsa) THAT YbulkbvziProg.lean LOADS. Nothing in Lean hashes anything: it is a label: what it is worth is what the hold of that sum in a sandbox is worth. -/
noncomputable def Yba.pinned : Pinned := { name := "ybulkbvzi", sum := "42932d36960d9c5eef9908e2972411c30769b52aa3a249cf05345afa22278ef5", checked := Yba.checked }
namespace Rows
def none {H : Type} : Left H := { results := [], args := [] }

/-- 'definitions.LawS3622CResource': WHATEVER THE INPUT: true; the input reads as it did. -/
def lawS3622CResourceSpec : ChangeSpec := { name := "lawS3622CResource", fn := fun _ => fun
  | [d1, d2, d3] => { results := [.lit (.bool true)], args := [d1, d2, d3] }
  | _ => none }
def lawS3622CResourceRow : OpenClaim := { program := "ybulkbvzi", sum := "42932d36960d9c5eef9908e2972411c30769b52aa3a249cf05345afa22278ef5", func := "example.com/auscult/auscult/internal/definitions.LawS3622CResource", spec := "lawS3622CResource", apart := false }
def LawS3622CResourceSaid : Prop := lawS3622CResourceRow.holds Yba.pinned (OpenSpec.ofChange lawS3622CResourceSpec)

/-- ITS FALSE NEIGHBOUR: 'it returns false'. Refute it at one input. -/
def lawS3622CResourceWrong : ChangeSpec := { name := "lawS3622CResource", fn := fun _ => fun
  | [d1, d2, d3] => { results := [.lit (.bool false)], args := [d1, d2, d3] }
  | _ => none }
def LawS3622CResourceWrongFalsely : Prop := lawS3622CResourceRow.holds Yba.pinned (OpenSpec.ofChange lawS3622CResourceWrong)

/-- 'definitions.LawS3622CEmpty': WHATEVER THE INPUT: true; the input reads as it did. -/
def lawS3622CEmptySpec : ChangeSpec := { name := "lawS3622CEmpty", fn := fun _ => fun
  | [d] => { results := [.lit (.bool true)], args := [d] }
  | _ => none }
def lawS3622CEmptyRow : OpenClaim := { program := "ybulkbvzi", sum := "42932d36960d9c5eef9908e2972411c30769b52aa3a249cf05345afa22278ef5", func := "example.com/auscult/auscult/internal/definitions.LawS3622CEmpty", spec := "lawS3622CEmpty", apart := false }
def LawS3622CEmptySaid : Prop := lawS3622CEmptyRow.holds Yba.pinned (OpenSpec.ofChange lawS3622CEmptySpec)

/-- ITS FALSE NEIGHBOUR: 'it returns false'. Refute it at one input. -/
def lawS3622CEmptyWrong : ChangeSpec := { name := "lawS3622CEmpty", fn := fun _ => fun
  | [d] => { results := [.lit (.bool false)], args := [d] }
  | _ => none }
def LawS3622CEmptyWrongFalsely : Prop := lawS3622CEmptyRow.holds Yba.pinned (OpenSpec.ofChange lawS3622CEmptyWrong)

end Rows
end Go.Proofs.Ybulkbvzi
