/-
  NARROWER THAN 'FOR EVERY INPUT', by the rows' own cells (each row's printed sentence says how): LawS3616AMap: laid · LawS3616AOwn: laid.
  DERIVED. THE GIVEN ROWS OF THIS SEAT. 2 by the template 'for every input the law returns true; each argument reads behind the call as it read before'; 0 by the template 'total and deterministic' (their statements: YbulkbvwcDoorTotals.lean).
  GIVEN WITH THE SEED: the statements are not yours to turn. If you find one false, say at which input.
  Laid BY PROGRAM, IN A SANDBOX (cutbox-rows.mjs): the forced cells as the released guide's own fill.sh prints them over the translation 000a9ec2969522c0… (all of the seat's roots in one cut). By AI agents, Wed Nov 11 2026. No macro, syntax, notation, axiom, sorry.
-/
import Derived.Test.YbulkbvwcDoorChecked
import GoSem.Claim
import GoSem.ClaimJoined
import GoSem.ClaimMapViews
import Derived.JoinedTies
import Derived.KernelRfl
namespace Go.Proofs.YbulkbvwcDoor
/- THE CELL 'sum', in the pinned program and in every row, IS THE sha256 OF THE DUMP (.gsa) THAT YbulkbvwcDoorProg.lean LOADS. Nothing in Lean hashes anything: it is a label: what it is worth is what the hold of that sum in a sandbox is worth. -/
noncomputable def Ybad.pinned : Pinned := { name := "ybulkbvwcdoor", sum := "000a9ec2969522c0cf88638c1540d7fa77ff4584306f985c1e4f888b577c0470", checked := Ybad.checked }
namespace Rows
def none {H : Type} : Left H := { results := [], args := [] }

/- WHAT THE LISTED PACKAGE-LEVEL VARIABLES READ AS WHEN THE CALL BEGINS. Each datum BY PROGRAM (the guide's laid-datum.mjs) off the statement by which the dump's own 'gosem.cut.vars' lays the variable. In a bare row this is a premise. The card (YbulkbvwcDoorCards.lean) ties it to the program's text. -/
def laid_io_EOF {H : Type} : DataW H := .iface "*errors.errorString" (.ptr (.agg [.lit (.string [69, 79, 70])]))
def laid_io_ErrUnexpectedEOF {H : Type} : DataW H := .iface "*errors.errorString" (.ptr (.agg [.lit (.string [117, 110, 101, 120, 112, 101, 99, 116, 101, 100, 32, 69, 79, 70])]))

/-- 'resp.LawS3616AMap': WHATEVER THE INPUT: true; the input reads as it did. -/
def lawS3616AMapSpec : ChangeSpec := { name := "lawS3616AMap", fn := fun _ => fun
  | [d1, d2] => { results := [.lit (.bool true)], args := [d1, d2] }
  | _ => none }
def lawS3616AMapRow : OpenClaim := { program := "ybulkbvwcdoor", sum := "000a9ec2969522c0cf88638c1540d7fa77ff4584306f985c1e4f888b577c0470", func := "example.com/hawser/hawser/resp.LawS3616AMap", spec := "lawS3616AMap", named := ["io.ErrUnexpectedEOF", "io.EOF"], apart := false, laid := [("io.EOF", laid_io_EOF), ("io.ErrUnexpectedEOF", laid_io_ErrUnexpectedEOF)] }
def LawS3616AMapSaid : Prop := lawS3616AMapRow.holds Ybad.pinned (OpenSpec.ofChange lawS3616AMapSpec)

/-- ITS FALSE NEIGHBOUR: 'it returns false'. Refute it at one input. -/
def lawS3616AMapWrong : ChangeSpec := { name := "lawS3616AMap", fn := fun _ => fun
  | [d1, d2] => { results := [.lit (.bool false)], args := [d1, d2] }
  | _ => none }
def LawS3616AMapWrongFalsely : Prop := lawS3616AMapRow.holds Ybad.pinned (OpenSpec.ofChange lawS3616AMapWrong)

/-- 'resp.LawS3616AOwn': WHATEVER THE INPUT: true; the input reads as it did. -/
def lawS3616AOwnSpec : ChangeSpec := { name := "lawS3616AOwn", fn := fun _ => fun
  | [d] => { results := [.lit (.bool true)], args := [d] }
  | _ => none }
def lawS3616AOwnRow : OpenClaim := { program := "ybulkbvwcdoor", sum := "000a9ec2969522c0cf88638c1540d7fa77ff4584306f985c1e4f888b577c0470", func := "example.com/hawser/hawser/resp.LawS3616AOwn", spec := "lawS3616AOwn", named := ["io.EOF", "io.ErrUnexpectedEOF"], apart := false, laid := [("io.EOF", laid_io_EOF), ("io.ErrUnexpectedEOF", laid_io_ErrUnexpectedEOF)] }
def LawS3616AOwnSaid : Prop := lawS3616AOwnRow.holds Ybad.pinned (OpenSpec.ofChange lawS3616AOwnSpec)

/-- ITS FALSE NEIGHBOUR: 'it returns false'. Refute it at one input. -/
def lawS3616AOwnWrong : ChangeSpec := { name := "lawS3616AOwn", fn := fun _ => fun
  | [d] => { results := [.lit (.bool false)], args := [d] }
  | _ => none }
def LawS3616AOwnWrongFalsely : Prop := lawS3616AOwnRow.holds Ybad.pinned (OpenSpec.ofChange lawS3616AOwnWrong)

end Rows
end Go.Proofs.YbulkbvwcDoor
