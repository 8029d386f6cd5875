/-
  DERIVED. GIVEN WITH THE SEED: THE CARDS: each row of YbulkblqqDoorRows.lean that lists a variable, with what it lists TIED to the program's text (the seventh form; the later family's looks); each row that meets fmt, with fmt's text TOLD by the authors' own Lean function (tested against real Go, not proved from fmt's source: count such statements apart). THE CARD IS WHAT COUNTS. Prove the row's statement (the work); the ties are given (YbulkblqqDoorTie.lean); close each card by the builder's one call (the guide's Derived/Test/ToyasCard.lean, 'card_holds'). Laid BY PROGRAM, IN A SANDBOX (cutbox-door.mjs). By AI agents, Wed Nov 11 2026. No macro, syntax, notation, axiom, sorry.
-/
import Derived.Test.YbulkblqqDoorRows
import GoSem.ClaimSeven
namespace Go.Proofs.YbulkblqqDoor
namespace Rows

/-- THE TIED CARD OF 'tally.LawS3123CTable'. -/
def lawS3123CTableCard : Claim7 := { stood := { row := lawS3123CTableRow, standIns := [], harness := (true, "18834b01f6f0cfa3969f6290830f8a0812774b5779a1171501f428edb225f618"), looks := false }, kinds := [], alts := [], laidByText := true, laidKinds := [.mapped], laidTests := true, laidLooks := .later }
def LawS3123CTableCardSaid : Prop := Claim7.holds Ybad.pinned (.plain (OpenSpec.ofChange lawS3123CTableSpec)) lawS3123CTableCard

/-- THE TIED CARD OF 'tally.LawS3123CLiveMost'. -/
def lawS3123CLiveMostCard : Claim7 := { stood := { row := lawS3123CLiveMostRow, standIns := [], harness := (true, "18834b01f6f0cfa3969f6290830f8a0812774b5779a1171501f428edb225f618"), looks := false }, kinds := [], alts := [], laidByText := true, laidKinds := [.mapped], laidTests := true, laidLooks := .later }
def LawS3123CLiveMostCardSaid : Prop := Claim7.holds Ybad.pinned (.plain (OpenSpec.ofChange lawS3123CLiveMostSpec)) lawS3123CLiveMostCard
end Rows
end Go.Proofs.YbulkblqqDoor
