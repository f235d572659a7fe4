/-
  No cell of these rows narrows 'for every input' (looked for: loops, veiled, ifaces, maps, wideKeys, modest, calm, conditions, laid).
  DERIVED. THE GIVEN ROWS OF THIS SEAT. 1 by the template 'for every input the law returns true; each argument reads behind the call as it read before'; 0 by the template 'total and deterministic' (their statements: YbulkcaggTotals.lean).
  GIVEN WITH THE SEED: the statements are not yours to turn. If you find one false, say at which input.
  Laid BY PROGRAM, IN A SANDBOX (cutbox-rows.mjs): the forced cells as the released guide's own fill.sh prints them over the translation 6913434e8ebbd60d… (all of the seat's roots in one cut). By AI agents, Wed Nov 11 2026. No macro, syntax, notation, axiom, sorry.
-/
import Derived.Test.YbulkcaggChecked
import GoSem.Claim
import GoSem.ClaimJoined
import GoSem.ClaimMapViews
import Derived.JoinedTies
import Derived.KernelRfl
namespace Go.Proofs.Ybulkcagg
/- THE CELL 'sum', in the pinned program and in every row, IS THE sha256 OF THE DUMP (.gsa) THAT YbulkcaggProg.lean LOADS. Nothing in Lean hashes anything: it is a label: what it is worth is what the hold of that sum in a sandbox is worth. -/
noncomputable def Yba.pinned : Pinned := { name := "ybulkcagg", sum := "6913434e8ebbd60db271ecd69be148e32a6926eac2aced0acad5c09864d89a4b", checked := Yba.checked }
namespace Rows
def none {H : Type} : Left H := { results := [], args := [] }

/-- 'search.LawS3828BModel': WHATEVER THE INPUT: true; the input reads as it did. -/
def lawS3828BModelSpec : ChangeSpec := { name := "lawS3828BModel", fn := fun _ => fun
  | [d1, d2, d3, d4, d5, d6, d7] => { results := [.lit (.bool true)], args := [d1, d2, d3, d4, d5, d6, d7] }
  | _ => none }
def lawS3828BModelRow : OpenClaim := { program := "ybulkcagg", sum := "6913434e8ebbd60db271ecd69be148e32a6926eac2aced0acad5c09864d89a4b", func := "example.com/roundtable/roundtable/search.LawS3828BModel", spec := "lawS3828BModel", apart := false }
def LawS3828BModelSaid : Prop := lawS3828BModelRow.holds Yba.pinned (OpenSpec.ofChange lawS3828BModelSpec)

/-- ITS FALSE NEIGHBOUR: 'it returns false'. Refute it at one input. -/
def lawS3828BModelWrong : ChangeSpec := { name := "lawS3828BModel", fn := fun _ => fun
  | [d1, d2, d3, d4, d5, d6, d7] => { results := [.lit (.bool false)], args := [d1, d2, d3, d4, d5, d6, d7] }
  | _ => none }
def LawS3828BModelWrongFalsely : Prop := lawS3828BModelRow.holds Yba.pinned (OpenSpec.ofChange lawS3828BModelWrong)

end Rows
end Go.Proofs.Ybulkcagg
