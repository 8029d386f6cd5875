/-
  DERIVED. GIVEN WITH THE SEED: THE CARDS: each row of YbulkblqcFmtRows.lean that lists a variable, with what it lists TIED to the program's text (the seventh form; the later family's looks); each row that meets fmt, with fmt's text TOLD by the authors' own Lean function (tested against real Go, not proved from fmt's source: count such statements apart). THE CARD IS WHAT COUNTS. Prove the row's statement (the work); the ties are given (YbulkblqcFmtTie.lean); close each card by the builder's one call (the guide's Derived/Test/ToyasCard.lean, 'card_holds'). Laid BY PROGRAM, IN A SANDBOX (cutbox-door.mjs). By AI agents, Wed Nov 11 2026. No macro, syntax, notation, axiom, sorry.
-/
import Derived.Test.YbulkblqcFmtRows
import GoSem.ClaimSeven
namespace Go.Proofs.YbulkblqcFmt
namespace Rows

/-- THE TOLD AND TIED CARD OF 'wire.LawS3122AModel'. -/
def lawS3122AModelCard : Claim7 := { stood := { row := lawS3122AModelRow, standIns := [], harness := (true, "82b61391c4859a62a5e9f0246c03f98a2c74e4492ef9334d9c43cb1cf3fff22d"), looks := true }, told := true, laidByText := true, laidKinds := [.mapped], laidTests := true, laidLooks := .later, goes := false }
def LawS3122AModelToldSaid : Prop := Claim7.holds Ybaf.pinned (.plain (OpenSpec.ofChange lawS3122AModelSpec)) lawS3122AModelCard
/-- ITS FALSE NEIGHBOUR. Refute it at one input. -/
def LawS3122AModelToldWrongFalsely : Prop := Claim7.holds Ybaf.pinned (.plain (OpenSpec.ofChange lawS3122AModelWrong)) lawS3122AModelCard

/-- THE TOLD AND TIED CARD OF 'wire.LawS3122AChain'. -/
def lawS3122AChainCard : Claim7 := { stood := { row := lawS3122AChainRow, standIns := [], harness := (true, "82b61391c4859a62a5e9f0246c03f98a2c74e4492ef9334d9c43cb1cf3fff22d"), looks := true }, told := true, laidByText := true, laidKinds := [.mapped], laidTests := true, laidLooks := .later, goes := false }
def LawS3122AChainToldSaid : Prop := Claim7.holds Ybaf.pinned (.plain (OpenSpec.ofChange lawS3122AChainSpec)) lawS3122AChainCard
/-- ITS FALSE NEIGHBOUR. Refute it at one input. -/
def LawS3122AChainToldWrongFalsely : Prop := Claim7.holds Ybaf.pinned (.plain (OpenSpec.ofChange lawS3122AChainWrong)) lawS3122AChainCard

/-- THE TOLD CARD OF 'doi.LawS3122BPlain'. -/
def lawS3122BPlainCard : Claim7 := { stood := { row := lawS3122BPlainRow, standIns := [], harness := (true, "82b61391c4859a62a5e9f0246c03f98a2c74e4492ef9334d9c43cb1cf3fff22d"), looks := true }, told := true, goes := false }
def LawS3122BPlainToldSaid : Prop := Claim7.holds Ybaf.pinned (.plain (OpenSpec.ofChange lawS3122BPlainSpec)) lawS3122BPlainCard
/-- ITS FALSE NEIGHBOUR. Refute it at one input. -/
def LawS3122BPlainToldWrongFalsely : Prop := Claim7.holds Ybaf.pinned (.plain (OpenSpec.ofChange lawS3122BPlainWrong)) lawS3122BPlainCard
end Rows
end Go.Proofs.YbulkblqcFmt
