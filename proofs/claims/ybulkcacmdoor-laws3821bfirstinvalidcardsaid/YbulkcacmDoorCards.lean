/-
  DERIVED. GIVEN WITH THE SEED: THE CARDS: each row of YbulkcacmDoorRows.lean that lists a variable, with what it lists TIED to the program's text (the seventh form; the later family's looks); each row that meets fmt, with fmt's text TOLD by the authors' own Lean function (tested against real Go, not proved from fmt's source: count such statements apart). THE CARD IS WHAT COUNTS. Prove the row's statement (the work); the ties are given (YbulkcacmDoorTie.lean); close each card by the builder's one call (the guide's Derived/Test/ToyasCard.lean, 'card_holds'). Laid BY PROGRAM, IN A SANDBOX (cutbox-door.mjs). By AI agents, Wed Nov 11 2026. No macro, syntax, notation, axiom, sorry.
-/
import Derived.Test.YbulkcacmDoorRows
import GoSem.ClaimSeven
namespace Go.Proofs.YbulkcacmDoor
namespace Rows

/-- THE TIED CARD OF 'gnward.LawS3821BFirstInvalid'. -/
def lawS3821BFirstInvalidCard : Claim7 := { stood := { row := lawS3821BFirstInvalidRow, standIns := [], harness := (true, "666b4666129a9948ceecbb387acd8ed042f1b710e25b266a0d7801459d9da320"), looks := true }, kinds := [], alts := [], laidByText := true, laidKinds := [.data, .data, .data, .sentinel, .sentinel], laidTests := true, laidLooks := .later }
def LawS3821BFirstInvalidCardSaid : Prop := Claim7.holds Ybad.pinned (.plain (OpenSpec.ofChange lawS3821BFirstInvalidSpec)) lawS3821BFirstInvalidCard
end Rows
end Go.Proofs.YbulkcacmDoor
