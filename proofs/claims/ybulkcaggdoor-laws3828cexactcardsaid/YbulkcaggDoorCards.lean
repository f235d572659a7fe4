/-
  DERIVED. GIVEN WITH THE SEED: THE CARDS: each row of YbulkcaggDoorRows.lean that lists a variable, with what it lists TIED to the program's text (the seventh form; the later family's looks); each row that meets fmt, with fmt's text TOLD by the authors' own Lean function (tested against real Go, not proved from fmt's source: count such statements apart). THE CARD IS WHAT COUNTS. Prove the row's statement (the work); the ties are given (YbulkcaggDoorTie.lean); close each card by the builder's one call (the guide's Derived/Test/ToyasCard.lean, 'card_holds'). Laid BY PROGRAM, IN A SANDBOX (cutbox-door.mjs). By AI agents, Wed Nov 11 2026. No macro, syntax, notation, axiom, sorry.
-/
import Derived.Test.YbulkcaggDoorRows
import GoSem.ClaimSeven
namespace Go.Proofs.YbulkcaggDoor
namespace Rows

/-- THE TIED CARD OF 'signed.LawS3828CExact'. -/
def lawS3828CExactCard : Claim7 := { stood := { row := lawS3828CExactRow, standIns := [], harness := (true, "0848b95cee0fcaa29ff590f861cb90477e3cd4756d298c3a7780365cfd3eb35a"), looks := true }, kinds := [], alts := [], laidByText := true, laidKinds := [.handle, .data, .data, .wider], laidTests := true, laidLooks := .later }
def LawS3828CExactCardSaid : Prop := Claim7.holds Ybad.pinned (.plain (OpenSpec.ofChange lawS3828CExactSpec)) lawS3828CExactCard

/-- THE TIED CARD OF 'signed.LawS3828CValid'. -/
def lawS3828CValidCard : Claim7 := { stood := { row := lawS3828CValidRow, standIns := [], harness := (true, "0848b95cee0fcaa29ff590f861cb90477e3cd4756d298c3a7780365cfd3eb35a"), looks := true }, kinds := [], alts := [], laidByText := true, laidKinds := [.data, .data, .wider], laidTests := true, laidLooks := .later }
def LawS3828CValidCardSaid : Prop := Claim7.holds Ybad.pinned (.plain (OpenSpec.ofChange lawS3828CValidSpec)) lawS3828CValidCard
end Rows
end Go.Proofs.YbulkcaggDoor
