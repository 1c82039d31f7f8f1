/-
  No cell of these rows narrows 'for every input' (looked for: loops, veiled, ifaces, maps, wideKeys, modest, calm, conditions, laid).
  DERIVED. THE GIVEN ROWS OF THIS SEAT. 2 by the template 'for every input the law returns true; each argument reads behind the call as it read before'; 0 by the template 'total and deterministic' (their statements: YbulkbvzwTotals.lean).
  GIVEN WITH THE SEED: the statements are not yours to turn. If you find one false, say at which input.
  Laid BY PROGRAM, IN A SANDBOX (cutbox-rows.mjs): the forced cells as the released guide's own fill.sh prints them over the translation cde2a2e4d97846e1… (all of the seat's roots in one cut). By AI agents, Wed Nov 11 2026. No macro, syntax, notation, axiom, sorry.
-/
import Derived.Test.YbulkbvzwChecked
import GoSem.Claim
import GoSem.ClaimJoined
import GoSem.ClaimMapViews
import Derived.JoinedTies
import Derived.KernelRfl
namespace Go.Proofs.Ybulkbvzw
/- THE CELL 'sum', in the pinned program and in every row, IS THE sha256 OF THE DUMP (.gsa) THAT YbulkbvzwProg.lean LOADS. Nothing in Lean hashes anything: it is a label: what it is worth is what the hold of that sum in a sandbox is worth. -/
noncomputable def Yba.pinned : Pinned := { name := "ybulkbvzw", sum := "cde2a2e4d97846e1275bda0ca5137c79187c5469a6e323df6d4e10fd36e99e24", checked := Yba.checked }
namespace Rows
def none {H : Type} : Left H := { results := [], args := [] }

/-- 'calendar.LawS3623AModel': WHATEVER THE INPUT: true; the input reads as it did. -/
def lawS3623AModelSpec : ChangeSpec := { name := "lawS3623AModel", fn := fun _ => fun
  | [d1, d2, d3] => { results := [.lit (.bool true)], args := [d1, d2, d3] }
  | _ => none }
def lawS3623AModelRow : OpenClaim := { program := "ybulkbvzw", sum := "cde2a2e4d97846e1275bda0ca5137c79187c5469a6e323df6d4e10fd36e99e24", func := "example.com/tola/tola/internal/calendar.LawS3623AModel", spec := "lawS3623AModel", apart := false }
def LawS3623AModelSaid : Prop := lawS3623AModelRow.holds Yba.pinned (OpenSpec.ofChange lawS3623AModelSpec)

/-- ITS FALSE NEIGHBOUR: 'it returns false'. Refute it at one input. -/
def lawS3623AModelWrong : ChangeSpec := { name := "lawS3623AModel", fn := fun _ => fun
  | [d1, d2, d3] => { results := [.lit (.bool false)], args := [d1, d2, d3] }
  | _ => none }
def LawS3623AModelWrongFalsely : Prop := lawS3623AModelRow.holds Yba.pinned (OpenSpec.ofChange lawS3623AModelWrong)

/-- 'calendar.LawS3623ABuilt': WHATEVER THE INPUT: true; the input reads as it did. -/
def lawS3623ABuiltSpec : ChangeSpec := { name := "lawS3623ABuilt", fn := fun _ => fun
  | [d1, d2, d3, d4] => { results := [.lit (.bool true)], args := [d1, d2, d3, d4] }
  | _ => none }
def lawS3623ABuiltRow : OpenClaim := { program := "ybulkbvzw", sum := "cde2a2e4d97846e1275bda0ca5137c79187c5469a6e323df6d4e10fd36e99e24", func := "example.com/tola/tola/internal/calendar.LawS3623ABuilt", spec := "lawS3623ABuilt", apart := false }
def LawS3623ABuiltSaid : Prop := lawS3623ABuiltRow.holds Yba.pinned (OpenSpec.ofChange lawS3623ABuiltSpec)

/-- ITS FALSE NEIGHBOUR: 'it returns false'. Refute it at one input. -/
def lawS3623ABuiltWrong : ChangeSpec := { name := "lawS3623ABuilt", fn := fun _ => fun
  | [d1, d2, d3, d4] => { results := [.lit (.bool false)], args := [d1, d2, d3, d4] }
  | _ => none }
def LawS3623ABuiltWrongFalsely : Prop := lawS3623ABuiltRow.holds Yba.pinned (OpenSpec.ofChange lawS3623ABuiltWrong)

end Rows
end Go.Proofs.Ybulkbvzw
