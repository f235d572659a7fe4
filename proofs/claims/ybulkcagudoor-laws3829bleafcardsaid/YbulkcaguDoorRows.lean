/-
  NARROWER THAN 'FOR EVERY INPUT', by the rows' own cells (each row's printed sentence says how): LawS3829BLeaf: laid.
  DERIVED. THE GIVEN ROWS OF THIS SEAT. 1 by the template 'for every input the law returns true; each argument reads behind the call as it read before'; 0 by the template 'total and deterministic' (their statements: YbulkcaguDoorTotals.lean).
  GIVEN WITH THE SEED: the statements are not yours to turn. If you find one false, say at which input.
  Laid BY PROGRAM, IN A SANDBOX (cutbox-rows.mjs): the forced cells as the released guide's own fill.sh prints them over the translation 9039c7daec1bf3f0… (all of the seat's roots in one cut). By AI agents, Wed Nov 11 2026. No macro, syntax, notation, axiom, sorry.
-/
import Derived.Test.YbulkcaguDoorChecked
import GoSem.Claim
import GoSem.ClaimJoined
import GoSem.ClaimMapViews
import Derived.JoinedTies
import Derived.KernelRfl
namespace Go.Proofs.YbulkcaguDoor
/- THE CELL 'sum', in the pinned program and in every row, IS THE sha256 OF THE DUMP (.gsa) THAT YbulkcaguDoorProg.lean LOADS. Nothing in Lean hashes anything: it is a label: what it is worth is what the hold of that sum in a sandbox is worth. -/
noncomputable def Ybad.pinned : Pinned := { name := "ybulkcagudoor", sum := "9039c7daec1bf3f05b8af04a93485ef895524025b2a696266a714b2acc619959", checked := Ybad.checked }
namespace Rows
def none {H : Type} : Left H := { results := [], args := [] }

/- WHAT THE LISTED PACKAGE-LEVEL VARIABLES READ AS WHEN THE CALL BEGINS. Each datum BY PROGRAM (the guide's laid-datum.mjs) off the statement by which the dump's own 'gosem.cut.vars' lays the variable. In a bare row this is a premise. The card (YbulkcaguDoorCards.lean) ties it to the program's text. -/
def laid_example_com_schedula_schedula_noRequests {H : Type} : DataW H := .agg [.lit (.int .i32 2147483647), .lit (.int .i32 2147483647)]

/-- 'schedula.LawS3829BLeaf': WHATEVER THE INPUT: true; the input reads as it did. -/
def lawS3829BLeafSpec : ChangeSpec := { name := "lawS3829BLeaf", vars := ["example.com/schedula/schedula.noRequests"], fn := fun _ => fun
  | [d1, d2, g1] => { results := [.lit (.bool true)], args := [d1, d2], vars := [g1] }
  | _ => none }
def lawS3829BLeafRow : OpenClaim := { program := "ybulkcagudoor", sum := "9039c7daec1bf3f05b8af04a93485ef895524025b2a696266a714b2acc619959", func := "example.com/schedula/schedula.LawS3829BLeaf", spec := "lawS3829BLeaf", named := ["example.com/schedula/schedula.noRequests"], apart := false, laid := [("example.com/schedula/schedula.noRequests", laid_example_com_schedula_schedula_noRequests)] }
def LawS3829BLeafSaid : Prop := lawS3829BLeafRow.holds Ybad.pinned (OpenSpec.ofChange lawS3829BLeafSpec)

/-- ITS FALSE NEIGHBOUR: 'it returns false'. Refute it at one input. -/
def lawS3829BLeafWrong : ChangeSpec := { name := "lawS3829BLeaf", vars := ["example.com/schedula/schedula.noRequests"], fn := fun _ => fun
  | [d1, d2, g1] => { results := [.lit (.bool false)], args := [d1, d2], vars := [g1] }
  | _ => none }
def LawS3829BLeafWrongFalsely : Prop := lawS3829BLeafRow.holds Ybad.pinned (OpenSpec.ofChange lawS3829BLeafWrong)

end Rows
end Go.Proofs.YbulkcaguDoor
