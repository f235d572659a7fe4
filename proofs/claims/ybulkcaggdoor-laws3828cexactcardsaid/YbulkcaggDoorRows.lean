/-
  NARROWER THAN 'FOR EVERY INPUT', by the rows' own cells (each row's printed sentence says how): LawS3828CExact: laid · LawS3828CValid: laid.
  DERIVED. THE GIVEN ROWS OF THIS SEAT. 2 by the template 'for every input the law returns true; each argument reads behind the call as it read before'; 0 by the template 'total and deterministic' (their statements: YbulkcaggDoorTotals.lean).
  GIVEN WITH THE SEED: the statements are not yours to turn. If you find one false, say at which input.
  Laid BY PROGRAM, IN A SANDBOX (cutbox-rows.mjs): the forced cells as the released guide's own fill.sh prints them over the translation 5a41a16d6d130854… (all of the seat's roots in one cut). By AI agents, Wed Nov 11 2026. No macro, syntax, notation, axiom, sorry.
-/
import Derived.Test.YbulkcaggDoorChecked
import GoSem.Claim
import GoSem.ClaimJoined
import GoSem.ClaimMapViews
import Derived.JoinedTies
import Derived.KernelRfl
namespace Go.Proofs.YbulkcaggDoor
/- THE CELL 'sum', in the pinned program and in every row, IS THE sha256 OF THE DUMP (.gsa) THAT YbulkcaggDoorProg.lean LOADS. Nothing in Lean hashes anything: it is a label: what it is worth is what the hold of that sum in a sandbox is worth. -/
noncomputable def Ybad.pinned : Pinned := { name := "ybulkcaggdoor", sum := "5a41a16d6d130854a7f3922ce060b8b9f713e3b79dd42917b7047b489d5a6899", checked := Ybad.checked }
namespace Rows
def none {H : Type} : Left H := { results := [], args := [] }

/- WHAT THE LISTED PACKAGE-LEVEL VARIABLES READ AS WHEN THE CALL BEGINS. Each datum BY PROGRAM (the guide's laid-datum.mjs) off the statement by which the dump's own 'gosem.cut.vars' lays the variable. In a bare row this is a premise. The card (YbulkcaggDoorCards.lean) ties it to the program's text. -/
def laid_errors_errorType {H : Type} : DataW H := .iface "internal/reflectlite.rtype" (.agg [.ptr (.lit (.string [101, 114, 114, 111, 114]))])
def laid_example_com_roundtable_roundtable_scenario_processCount {H : Type} : DataW H := .agg [.lit (.int .i64 1), .lit (.int .i64 64)]
def laid_example_com_roundtable_roundtable_scenario_roundCount {H : Type} : DataW H := .agg [.lit (.int .i64 1), .lit (.int .i64 1000)]
def laid_example_com_roundtable_roundtable_scenario_values {H : Type} : DataW H := .agg [.lit (.int .i64 0), .lit (.int .i64 1)]

/-- 'signed.LawS3828CExact': WHATEVER THE INPUT: true; the input reads as it did. -/
def lawS3828CExactSpec : ChangeSpec := { name := "lawS3828CExact", vars := ["example.com/roundtable/roundtable/scenario.processCount", "example.com/roundtable/roundtable/scenario.roundCount", "example.com/roundtable/roundtable/scenario.values"], fn := fun _ => fun
  | [d1, d2, d3, d4, d5, d6, g1, g2, g3] => { results := [.lit (.bool true)], args := [d1, d2, d3, d4, d5, d6], vars := [g1, g2, g3] }
  | _ => none }
def lawS3828CExactRow : OpenClaim := { program := "ybulkcaggdoor", sum := "5a41a16d6d130854a7f3922ce060b8b9f713e3b79dd42917b7047b489d5a6899", func := "example.com/roundtable/roundtable/signed.LawS3828CExact", spec := "lawS3828CExact", inPlace := ["internal/reflectlite.ValueOf", "(internal/reflectlite.Value).Type", "(internal/reflectlite.Value).IsNil", "internal/reflectlite.TypeOf", "(internal/reflectlite.Value).Elem", "(internal/reflectlite.Value).Set"], unfollowed := true, recurses := true, named := ["example.com/roundtable/roundtable/scenario.processCount", "example.com/roundtable/roundtable/scenario.roundCount", "example.com/roundtable/roundtable/scenario.values", "errors.errorType"], apart := false, laid := [("errors.errorType", laid_errors_errorType), ("example.com/roundtable/roundtable/scenario.processCount", laid_example_com_roundtable_roundtable_scenario_processCount), ("example.com/roundtable/roundtable/scenario.roundCount", laid_example_com_roundtable_roundtable_scenario_roundCount), ("example.com/roundtable/roundtable/scenario.values", laid_example_com_roundtable_roundtable_scenario_values)] }
def LawS3828CExactSaid : Prop := lawS3828CExactRow.holds Ybad.pinned (OpenSpec.ofChange lawS3828CExactSpec)

/-- ITS FALSE NEIGHBOUR: 'it returns false'. Refute it at one input. -/
def lawS3828CExactWrong : ChangeSpec := { name := "lawS3828CExact", vars := ["example.com/roundtable/roundtable/scenario.processCount", "example.com/roundtable/roundtable/scenario.roundCount", "example.com/roundtable/roundtable/scenario.values"], fn := fun _ => fun
  | [d1, d2, d3, d4, d5, d6, g1, g2, g3] => { results := [.lit (.bool false)], args := [d1, d2, d3, d4, d5, d6], vars := [g1, g2, g3] }
  | _ => none }
def LawS3828CExactWrongFalsely : Prop := lawS3828CExactRow.holds Ybad.pinned (OpenSpec.ofChange lawS3828CExactWrong)

/-- 'signed.LawS3828CValid': WHATEVER THE INPUT: true; the input reads as it did. -/
def lawS3828CValidSpec : ChangeSpec := { name := "lawS3828CValid", vars := ["example.com/roundtable/roundtable/scenario.processCount", "example.com/roundtable/roundtable/scenario.roundCount", "example.com/roundtable/roundtable/scenario.values"], fn := fun _ => fun
  | [d1, d2, d3, d4, d5, d6, g1, g2, g3] => { results := [.lit (.bool true)], args := [d1, d2, d3, d4, d5, d6], vars := [g1, g2, g3] }
  | _ => none }
def lawS3828CValidRow : OpenClaim := { program := "ybulkcaggdoor", sum := "5a41a16d6d130854a7f3922ce060b8b9f713e3b79dd42917b7047b489d5a6899", func := "example.com/roundtable/roundtable/signed.LawS3828CValid", spec := "lawS3828CValid", named := ["example.com/roundtable/roundtable/scenario.processCount", "example.com/roundtable/roundtable/scenario.roundCount", "example.com/roundtable/roundtable/scenario.values"], apart := false, laid := [("example.com/roundtable/roundtable/scenario.processCount", laid_example_com_roundtable_roundtable_scenario_processCount), ("example.com/roundtable/roundtable/scenario.roundCount", laid_example_com_roundtable_roundtable_scenario_roundCount), ("example.com/roundtable/roundtable/scenario.values", laid_example_com_roundtable_roundtable_scenario_values)] }
def LawS3828CValidSaid : Prop := lawS3828CValidRow.holds Ybad.pinned (OpenSpec.ofChange lawS3828CValidSpec)

/-- ITS FALSE NEIGHBOUR: 'it returns false'. Refute it at one input. -/
def lawS3828CValidWrong : ChangeSpec := { name := "lawS3828CValid", vars := ["example.com/roundtable/roundtable/scenario.processCount", "example.com/roundtable/roundtable/scenario.roundCount", "example.com/roundtable/roundtable/scenario.values"], fn := fun _ => fun
  | [d1, d2, d3, d4, d5, d6, g1, g2, g3] => { results := [.lit (.bool false)], args := [d1, d2, d3, d4, d5, d6], vars := [g1, g2, g3] }
  | _ => none }
def LawS3828CValidWrongFalsely : Prop := lawS3828CValidRow.holds Ybad.pinned (OpenSpec.ofChange lawS3828CValidWrong)

end Rows
end Go.Proofs.YbulkcaggDoor
