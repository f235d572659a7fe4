/-
  DERIVED. GIVEN WITH THE SEED: THE CARDS: each row of YbulkcaguDoorRows.lean that lists a variable, with what it lists TIED to the program's text (the seventh form; the later family's looks); each row that meets fmt, with fmt's text TOLD by the authors' own Lean function (tested against real Go, not proved from fmt's source: count such statements apart). THE CARD IS WHAT COUNTS. Prove the row's statement (the work); the ties are given (YbulkcaguDoorTie.lean); close each card by the builder's one call (the guide's Derived/Test/ToyasCard.lean, 'card_holds'). Laid BY PROGRAM, IN A SANDBOX (cutbox-door.mjs). By AI agents, Wed Nov 11 2026. No macro, syntax, notation, axiom, sorry.
-/
import Derived.Test.YbulkcaguDoorRows
import GoSem.ClaimSeven
namespace Go.Proofs.YbulkcaguDoor
namespace Rows

/-- THE TIED CARD OF 'schedula.LawS3829BLeaf'. -/
def lawS3829BLeafCard : Claim7 := { stood := { row := lawS3829BLeafRow, standIns := [], harness := (true, "c48e7a03d42991d363755b1d98bd039e6316d62e25f15a3fa1bc15e428ac2df6"), looks := false }, kinds := [], alts := [], laidByText := true, laidKinds := [.data], laidTests := true, laidLooks := .later }
def LawS3829BLeafCardSaid : Prop := Claim7.holds Ybad.pinned (.plain (OpenSpec.ofChange lawS3829BLeafSpec)) lawS3829BLeafCard
end Rows
end Go.Proofs.YbulkcaguDoor
