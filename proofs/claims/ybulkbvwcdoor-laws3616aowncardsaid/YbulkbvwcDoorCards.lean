/-
  DERIVED. GIVEN WITH THE SEED: THE CARDS: each row of YbulkbvwcDoorRows.lean that lists a variable, with what it lists TIED to the program's text (the seventh form; the later family's looks); each row that meets fmt, with fmt's text TOLD by the authors' own Lean function (tested against real Go, not proved from fmt's source: count such statements apart). THE CARD IS WHAT COUNTS. Prove the row's statement (the work); the ties are given (YbulkbvwcDoorTie.lean); close each card by the builder's one call (the guide's Derived/Test/ToyasCard.lean, 'card_holds'). Laid BY PROGRAM, IN A SANDBOX (cutbox-door.mjs). By AI agents, Wed Nov 11 2026. No macro, syntax, notation, axiom, sorry.
-/
import Derived.Test.YbulkbvwcDoorRows
import GoSem.ClaimSeven
namespace Go.Proofs.YbulkbvwcDoor
namespace Rows

/-- THE TIED CARD OF 'resp.LawS3616AMap'. -/
def lawS3616AMapCard : Claim7 := { stood := { row := lawS3616AMapRow, standIns := [], harness := (true, "04021f80c62d070f9514a6d06c77f25820c9525d90dd8df60b63df33eef7e480"), looks := true }, kinds := [], alts := [], laidByText := true, laidKinds := [.sentinel, .sentinel], laidTests := true, laidLooks := .later }
def LawS3616AMapCardSaid : Prop := Claim7.holds Ybad.pinned (.plain (OpenSpec.ofChange lawS3616AMapSpec)) lawS3616AMapCard

/-- THE TIED CARD OF 'resp.LawS3616AOwn'. -/
def lawS3616AOwnCard : Claim7 := { stood := { row := lawS3616AOwnRow, standIns := [], harness := (true, "04021f80c62d070f9514a6d06c77f25820c9525d90dd8df60b63df33eef7e480"), looks := true }, kinds := [], alts := [], laidByText := true, laidKinds := [.sentinel, .sentinel], laidTests := true, laidLooks := .later }
def LawS3616AOwnCardSaid : Prop := Claim7.holds Ybad.pinned (.plain (OpenSpec.ofChange lawS3616AOwnSpec)) lawS3616AOwnCard
end Rows
end Go.Proofs.YbulkbvwcDoor
