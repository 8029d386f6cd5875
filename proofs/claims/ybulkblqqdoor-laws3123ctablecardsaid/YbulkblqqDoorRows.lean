/-
  NARROWER THAN 'FOR EVERY INPUT', by the rows' own cells (each row's printed sentence says how): LawS3123CTable: maps, laid · LawS3123CLiveMost: maps, laid.
  DERIVED. THE GIVEN ROWS OF THIS SEAT. 2 by the template 'for every input the law returns true; each argument reads behind the call as it read before'; 0 by the template 'total and deterministic' (their statements: YbulkblqqDoorTotals.lean).
  GIVEN WITH THE SEED: the statements are not yours to turn. If you find one false, say at which input.
  Laid BY PROGRAM, IN A SANDBOX (cutbox-rows.mjs): the forced cells as the released guide's own fill.sh prints them over the translation 9e7ffc2c76c8f26c… (all of the seat's roots in one cut). By AI agents, Wed Nov 11 2026. No macro, syntax, notation, axiom, sorry.
-/
import Derived.Test.YbulkblqqDoorChecked
import GoSem.Claim
import GoSem.ClaimJoined
import GoSem.ClaimMapViews
import Derived.JoinedTies
import Derived.KernelRfl
namespace Go.Proofs.YbulkblqqDoor
/- THE CELL 'sum', in the pinned program and in every row, IS THE sha256 OF THE DUMP (.gsa) THAT YbulkblqqDoorProg.lean LOADS. Nothing in Lean hashes anything: it is a label: what it is worth is what the hold of that sum in a sandbox is worth. -/
noncomputable def Ybad.pinned : Pinned := { name := "ybulkblqqdoor", sum := "9e7ffc2c76c8f26c25eb703e1d68e0c5575865a5cd65496e42d95f9a9022d37a", checked := Ybad.checked }
namespace Rows
def none {H : Type} : Left H := { results := [], args := [] }

/- WHAT THE LISTED PACKAGE-LEVEL VARIABLES READ AS WHEN THE CALL BEGINS. Each datum BY PROGRAM (the guide's laid-datum.mjs) off the statement by which the dump's own 'gosem.cut.vars' lays the variable. In a bare row this is a premise. The card (YbulkblqqDoorCards.lean) ties it to the program's text. -/
def laid_example_com_wiretally_wiretally_tally_keptKeys {H : Type} : DataW H := .map [(.int .i64 60, .lit (.int .i64 50000)), (.int .i64 300, .lit (.int .i64 5000))]

/-- 'tally.LawS3123CTable': WHATEVER THE INPUT: true; the input reads as it did. -/
def lawS3123CTableSpec : ChangeSpec := { name := "lawS3123CTable", vars := ["example.com/wiretally/wiretally/tally.keptKeys"], fn := fun _ => fun
  | [d1, d2, d3, d4, g1] => { results := [.lit (.bool true)], args := [d1, d2, d3, d4], vars := [g1] }
  | _ => none }
def lawS3123CTableRow : OpenClaim := { program := "ybulkblqqdoor", sum := "9e7ffc2c76c8f26c25eb703e1d68e0c5575865a5cd65496e42d95f9a9022d37a", func := "example.com/wiretally/wiretally/tally.LawS3123CTable", spec := "lawS3123CTable", named := ["example.com/wiretally/wiretally/tally.keptKeys"], maps := true, apart := false, laid := [("example.com/wiretally/wiretally/tally.keptKeys", laid_example_com_wiretally_wiretally_tally_keptKeys)] }
def LawS3123CTableSaid : Prop := lawS3123CTableRow.holds Ybad.pinned (OpenSpec.ofChange lawS3123CTableSpec)

/-- ITS FALSE NEIGHBOUR: 'it returns false'. Refute it at one input. -/
def lawS3123CTableWrong : ChangeSpec := { name := "lawS3123CTable", vars := ["example.com/wiretally/wiretally/tally.keptKeys"], fn := fun _ => fun
  | [d1, d2, d3, d4, g1] => { results := [.lit (.bool false)], args := [d1, d2, d3, d4], vars := [g1] }
  | _ => none }
def LawS3123CTableWrongFalsely : Prop := lawS3123CTableRow.holds Ybad.pinned (OpenSpec.ofChange lawS3123CTableWrong)

/-- 'tally.LawS3123CLiveMost': WHATEVER THE INPUT: true; the input reads as it did. -/
def lawS3123CLiveMostSpec : ChangeSpec := { name := "lawS3123CLiveMost", vars := ["example.com/wiretally/wiretally/tally.keptKeys"], fn := fun _ => fun
  | [d1, d2, d3, g1] => { results := [.lit (.bool true)], args := [d1, d2, d3], vars := [g1] }
  | _ => none }
def lawS3123CLiveMostRow : OpenClaim := { program := "ybulkblqqdoor", sum := "9e7ffc2c76c8f26c25eb703e1d68e0c5575865a5cd65496e42d95f9a9022d37a", func := "example.com/wiretally/wiretally/tally.LawS3123CLiveMost", spec := "lawS3123CLiveMost", named := ["example.com/wiretally/wiretally/tally.keptKeys"], maps := true, apart := false, laid := [("example.com/wiretally/wiretally/tally.keptKeys", laid_example_com_wiretally_wiretally_tally_keptKeys)] }
def LawS3123CLiveMostSaid : Prop := lawS3123CLiveMostRow.holds Ybad.pinned (OpenSpec.ofChange lawS3123CLiveMostSpec)

/-- ITS FALSE NEIGHBOUR: 'it returns false'. Refute it at one input. -/
def lawS3123CLiveMostWrong : ChangeSpec := { name := "lawS3123CLiveMost", vars := ["example.com/wiretally/wiretally/tally.keptKeys"], fn := fun _ => fun
  | [d1, d2, d3, g1] => { results := [.lit (.bool false)], args := [d1, d2, d3], vars := [g1] }
  | _ => none }
def LawS3123CLiveMostWrongFalsely : Prop := lawS3123CLiveMostRow.holds Ybad.pinned (OpenSpec.ofChange lawS3123CLiveMostWrong)

end Rows
end Go.Proofs.YbulkblqqDoor
