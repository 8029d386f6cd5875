/-
  No cell of these rows narrows 'for every input' (looked for: loops, veiled, ifaces, maps, wideKeys, modest, calm, conditions, laid).
  DERIVED. THE GIVEN ROWS OF THIS SEAT. 3 by the template 'for every input the law returns true; each argument reads behind the call as it read before'; 0 by the template 'total and deterministic' (their statements: YbulkblomTotals.lean).
  GIVEN WITH THE SEED: the statements are not yours to turn. If you find one false, say at which input.
  Laid BY PROGRAM, IN A SANDBOX (cutbox-rows.mjs): the forced cells as the released guide's own fill.sh prints them over the translation ad5dce5a1a55579f… (all of the seat's roots in one cut). By AI agents, Wed Nov 11 2026. No macro, syntax, notation, axiom, sorry.
-/
import Derived.Test.YbulkblomChecked
import GoSem.Claim
import GoSem.ClaimJoined
import GoSem.ClaimMapViews
import Derived.JoinedTies
import Derived.KernelRfl
namespace Go.Proofs.Ybulkblom
/- THE CELL 'sum', in the pinned program and in every row, IS THE sha256 OF THE DUMP (.gsa) THAT YbulkblomProg.lean LOADS. Nothing in Lean hashes anything: it is a label: what it is worth is what the hold of that sum in a sandbox is worth. -/
noncomputable def Yba.pinned : Pinned := { name := "ybulkblom", sum := "ad5dce5a1a55579fc466f978e0f3c3863f5116221d3ffca3529651448a60055b", checked := Yba.checked }
namespace Rows
def none {H : Type} : Left H := { results := [], args := [] }

/-- 'truthcast.LawS3119BExact': WHATEVER THE INPUT: true; the input reads as it did. -/
def lawS3119BExactSpec : ChangeSpec := { name := "lawS3119BExact", fn := fun _ => fun
  | [d] => { results := [.lit (.bool true)], args := [d] }
  | _ => none }
def lawS3119BExactRow : OpenClaim := { program := "ybulkblom", sum := "ad5dce5a1a55579fc466f978e0f3c3863f5116221d3ffca3529651448a60055b", func := "example.com/truthcast/truthcast.LawS3119BExact", spec := "lawS3119BExact", apart := false }
def LawS3119BExactSaid : Prop := lawS3119BExactRow.holds Yba.pinned (OpenSpec.ofChange lawS3119BExactSpec)

/-- ITS FALSE NEIGHBOUR: 'it returns false'. Refute it at one input. -/
def lawS3119BExactWrong : ChangeSpec := { name := "lawS3119BExact", fn := fun _ => fun
  | [d] => { results := [.lit (.bool false)], args := [d] }
  | _ => none }
def LawS3119BExactWrongFalsely : Prop := lawS3119BExactRow.holds Yba.pinned (OpenSpec.ofChange lawS3119BExactWrong)

/-- 'truthcast.LawS3119CModel': WHATEVER THE INPUT: true; the input reads as it did. -/
def lawS3119CModelSpec : ChangeSpec := { name := "lawS3119CModel", fn := fun _ => fun
  | [d1, d2] => { results := [.lit (.bool true)], args := [d1, d2] }
  | _ => none }
def lawS3119CModelRow : OpenClaim := { program := "ybulkblom", sum := "ad5dce5a1a55579fc466f978e0f3c3863f5116221d3ffca3529651448a60055b", func := "example.com/truthcast/truthcast.LawS3119CModel", spec := "lawS3119CModel", apart := false }
def LawS3119CModelSaid : Prop := lawS3119CModelRow.holds Yba.pinned (OpenSpec.ofChange lawS3119CModelSpec)

/-- ITS FALSE NEIGHBOUR: 'it returns false'. Refute it at one input. -/
def lawS3119CModelWrong : ChangeSpec := { name := "lawS3119CModel", fn := fun _ => fun
  | [d1, d2] => { results := [.lit (.bool false)], args := [d1, d2] }
  | _ => none }
def LawS3119CModelWrongFalsely : Prop := lawS3119CModelRow.holds Yba.pinned (OpenSpec.ofChange lawS3119CModelWrong)

/-- 'truthcast.LawS3119CCast': WHATEVER THE INPUT: true; the input reads as it did. -/
def lawS3119CCastSpec : ChangeSpec := { name := "lawS3119CCast", fn := fun _ => fun
  | [d1, d2] => { results := [.lit (.bool true)], args := [d1, d2] }
  | _ => none }
def lawS3119CCastRow : OpenClaim := { program := "ybulkblom", sum := "ad5dce5a1a55579fc466f978e0f3c3863f5116221d3ffca3529651448a60055b", func := "example.com/truthcast/truthcast.LawS3119CCast", spec := "lawS3119CCast", apart := false }
def LawS3119CCastSaid : Prop := lawS3119CCastRow.holds Yba.pinned (OpenSpec.ofChange lawS3119CCastSpec)

/-- ITS FALSE NEIGHBOUR: 'it returns false'. Refute it at one input. -/
def lawS3119CCastWrong : ChangeSpec := { name := "lawS3119CCast", fn := fun _ => fun
  | [d1, d2] => { results := [.lit (.bool false)], args := [d1, d2] }
  | _ => none }
def LawS3119CCastWrongFalsely : Prop := lawS3119CCastRow.holds Yba.pinned (OpenSpec.ofChange lawS3119CCastWrong)

end Rows
end Go.Proofs.Ybulkblom
