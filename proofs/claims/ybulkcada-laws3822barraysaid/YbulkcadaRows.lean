/-
  No cell of these rows narrows 'for every input' (looked for: loops, veiled, ifaces, maps, wideKeys, modest, calm, conditions, laid).
  DERIVED. THE GIVEN ROWS OF THIS SEAT. 2 by the template 'for every input the law returns true; each argument reads behind the call as it read before'; 0 by the template 'total and deterministic' (their statements: YbulkcadaTotals.lean).
  GIVEN WITH THE SEED: the statements are not yours to turn. If you find one false, say at which input.
  Laid BY PROGRAM, IN A SANDBOX (cutbox-rows.mjs): the forced cells as the released guide's own fill.sh prints them over the translation 27794fb66723abc3… (all of the seat's roots in one cut). By AI agents, Wed Nov 11 2026. No macro, syntax, notation, axiom, sorry.
-/
import Derived.Test.YbulkcadaChecked
import GoSem.Claim
import GoSem.ClaimJoined
import GoSem.ClaimMapViews
import Derived.JoinedTies
import Derived.KernelRfl
namespace Go.Proofs.Ybulkcada
/- THE CELL 'sum', in the pinned program and in every row, IS THE sha256 OF THE DUMP (.gsa) THAT YbulkcadaProg.lean LOADS. Nothing in Lean hashes anything: it is a label: what it is worth is what the hold of that sum in a sandbox is worth. -/
noncomputable def Yba.pinned : Pinned := { name := "ybulkcada", sum := "27794fb66723abc387d6f3467483da1072f67c7ffd232981e4584d041e602d9a", checked := Yba.checked }
namespace Rows
def none {H : Type} : Left H := { results := [], args := [] }

/-- 'chord.LawS3822BBytes': WHATEVER THE INPUT: true; the input reads as it did. -/
def lawS3822BBytesSpec : ChangeSpec := { name := "lawS3822BBytes", fn := fun _ => fun
  | [d] => { results := [.lit (.bool true)], args := [d] }
  | _ => none }
def lawS3822BBytesRow : OpenClaim := { program := "ybulkcada", sum := "27794fb66723abc387d6f3467483da1072f67c7ffd232981e4584d041e602d9a", func := "example.com/overlace/overlace/internal/chord.LawS3822BBytes", spec := "lawS3822BBytes", named := ["encoding/binary.BigEndian"], apart := false }
def LawS3822BBytesSaid : Prop := lawS3822BBytesRow.holds Yba.pinned (OpenSpec.ofChange lawS3822BBytesSpec)

/-- ITS FALSE NEIGHBOUR: 'it returns false'. Refute it at one input. -/
def lawS3822BBytesWrong : ChangeSpec := { name := "lawS3822BBytes", fn := fun _ => fun
  | [d] => { results := [.lit (.bool false)], args := [d] }
  | _ => none }
def LawS3822BBytesWrongFalsely : Prop := lawS3822BBytesRow.holds Yba.pinned (OpenSpec.ofChange lawS3822BBytesWrong)

/-- 'chord.LawS3822BArray': WHATEVER THE INPUT: true; the input reads as it did. -/
def lawS3822BArraySpec : ChangeSpec := { name := "lawS3822BArray", fn := fun _ => fun
  | [d1, d2] => { results := [.lit (.bool true)], args := [d1, d2] }
  | _ => none }
def lawS3822BArrayRow : OpenClaim := { program := "ybulkcada", sum := "27794fb66723abc387d6f3467483da1072f67c7ffd232981e4584d041e602d9a", func := "example.com/overlace/overlace/internal/chord.LawS3822BArray", spec := "lawS3822BArray", named := ["encoding/binary.BigEndian"], apart := false }
def LawS3822BArraySaid : Prop := lawS3822BArrayRow.holds Yba.pinned (OpenSpec.ofChange lawS3822BArraySpec)

/-- ITS FALSE NEIGHBOUR: 'it returns false'. Refute it at one input. -/
def lawS3822BArrayWrong : ChangeSpec := { name := "lawS3822BArray", fn := fun _ => fun
  | [d1, d2] => { results := [.lit (.bool false)], args := [d1, d2] }
  | _ => none }
def LawS3822BArrayWrongFalsely : Prop := lawS3822BArrayRow.holds Yba.pinned (OpenSpec.ofChange lawS3822BArrayWrong)

end Rows
end Go.Proofs.Ybulkcada
