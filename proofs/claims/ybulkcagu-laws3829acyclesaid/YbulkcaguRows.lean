/-
  No cell of these rows narrows 'for every input' (looked for: loops, veiled, ifaces, maps, wideKeys, modest, calm, conditions, laid).
  DERIVED. THE GIVEN ROWS OF THIS SEAT. 2 by the template 'for every input the law returns true; each argument reads behind the call as it read before'; 0 by the template 'total and deterministic' (their statements: YbulkcaguTotals.lean).
  GIVEN WITH THE SEED: the statements are not yours to turn. If you find one false, say at which input.
  Laid BY PROGRAM, IN A SANDBOX (cutbox-rows.mjs): the forced cells as the released guide's own fill.sh prints them over the translation 4e34df0f999ab83f… (all of the seat's roots in one cut). By AI agents, Wed Nov 11 2026. No macro, syntax, notation, axiom, sorry.
-/
import Derived.Test.YbulkcaguChecked
import GoSem.Claim
import GoSem.ClaimJoined
import GoSem.ClaimMapViews
import Derived.JoinedTies
import Derived.KernelRfl
namespace Go.Proofs.Ybulkcagu
/- THE CELL 'sum', in the pinned program and in every row, IS THE sha256 OF THE DUMP (.gsa) THAT YbulkcaguProg.lean LOADS. Nothing in Lean hashes anything: it is a label: what it is worth is what the hold of that sum in a sandbox is worth. -/
noncomputable def Yba.pinned : Pinned := { name := "ybulkcagu", sum := "4e34df0f999ab83f9b9cb0a36fbaed1ceb6796d25315792253f36dafc03ed471", checked := Yba.checked }
namespace Rows
def none {H : Type} : Left H := { results := [], args := [] }

/-- 'schedula.LawS3829ACycle': WHATEVER THE INPUT: true; the input reads as it did. -/
def lawS3829ACycleSpec : ChangeSpec := { name := "lawS3829ACycle", fn := fun _ => fun
  | [d1, d2, d3, d4, d5] => { results := [.lit (.bool true)], args := [d1, d2, d3, d4, d5] }
  | _ => none }
def lawS3829ACycleRow : OpenClaim := { program := "ybulkcagu", sum := "4e34df0f999ab83f9b9cb0a36fbaed1ceb6796d25315792253f36dafc03ed471", func := "example.com/schedula/schedula.LawS3829ACycle", spec := "lawS3829ACycle", apart := false }
def LawS3829ACycleSaid : Prop := lawS3829ACycleRow.holds Yba.pinned (OpenSpec.ofChange lawS3829ACycleSpec)

/-- ITS FALSE NEIGHBOUR: 'it returns false'. Refute it at one input. -/
def lawS3829ACycleWrong : ChangeSpec := { name := "lawS3829ACycle", fn := fun _ => fun
  | [d1, d2, d3, d4, d5] => { results := [.lit (.bool false)], args := [d1, d2, d3, d4, d5] }
  | _ => none }
def LawS3829ACycleWrongFalsely : Prop := lawS3829ACycleRow.holds Yba.pinned (OpenSpec.ofChange lawS3829ACycleWrong)

/-- 'schedula.LawS3829CCopy': WHATEVER THE INPUT: true; the input reads as it did. -/
def lawS3829CCopySpec : ChangeSpec := { name := "lawS3829CCopy", fn := fun _ => fun
  | [d] => { results := [.lit (.bool true)], args := [d] }
  | _ => none }
def lawS3829CCopyRow : OpenClaim := { program := "ybulkcagu", sum := "4e34df0f999ab83f9b9cb0a36fbaed1ceb6796d25315792253f36dafc03ed471", func := "example.com/schedula/schedula.LawS3829CCopy", spec := "lawS3829CCopy", apart := false }
def LawS3829CCopySaid : Prop := lawS3829CCopyRow.holds Yba.pinned (OpenSpec.ofChange lawS3829CCopySpec)

/-- ITS FALSE NEIGHBOUR: 'it returns false'. Refute it at one input. -/
def lawS3829CCopyWrong : ChangeSpec := { name := "lawS3829CCopy", fn := fun _ => fun
  | [d] => { results := [.lit (.bool false)], args := [d] }
  | _ => none }
def LawS3829CCopyWrongFalsely : Prop := lawS3829CCopyRow.holds Yba.pinned (OpenSpec.ofChange lawS3829CCopyWrong)

end Rows
end Go.Proofs.Ybulkcagu
