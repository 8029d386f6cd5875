/-
  NARROWER THAN 'FOR EVERY INPUT', by the rows' own cells (each row's printed sentence says how): LawS3122AModel: maps, laid · LawS3122AChain: maps, laid.
  DERIVED. THE GIVEN ROWS OF THIS SEAT. 3 by the template 'for every input the law returns true; each argument reads behind the call as it read before'; 0 by the template 'total and deterministic' (their statements: YbulkblqcFmtTotals.lean).
  GIVEN WITH THE SEED: the statements are not yours to turn. If you find one false, say at which input.
  Laid BY PROGRAM, IN A SANDBOX (cutbox-rows.mjs): the forced cells as the released guide's own fill.sh prints them over the translation eda59a1ad20e561b… (all of the seat's roots in one cut). By AI agents, Wed Nov 11 2026. No macro, syntax, notation, axiom, sorry.
-/
import Derived.Test.YbulkblqcFmtChecked
import GoSem.Claim
import GoSem.ClaimJoined
import GoSem.ClaimMapViews
import Derived.JoinedTies
import Derived.KernelRfl
namespace Go.Proofs.YbulkblqcFmt
/- THE CELL 'sum', in the pinned program and in every row, IS THE sha256 OF THE DUMP (.gsa) THAT YbulkblqcFmtProg.lean LOADS. Nothing in Lean hashes anything: it is a label: what it is worth is what the hold of that sum in a sandbox is worth. -/
noncomputable def Ybaf.pinned : Pinned := { name := "ybulkblqcfmt", sum := "eda59a1ad20e561bdb3fdd4a5a4e5774030ea983b8a96f428b88d8b37637d3b1", checked := Ybaf.checked }
namespace Rows
def none {H : Type} : Left H := { results := [], args := [] }

/- WHAT THE LISTED PACKAGE-LEVEL VARIABLES READ AS WHEN THE CALL BEGINS. Each datum BY PROGRAM (the guide's laid-datum.mjs) off the statement by which the dump's own 'gosem.cut.vars' lays the variable. In a bare row this is a premise. The card (YbulkblqcFmtCards.lean) ties it to the program's text. -/
def laid_example_com_keyaccord_keyaccord_pkg_wire_payloadTypes {H : Type} : DataW H := .map [(.int .u8 1, .agg [.lit (.string [83, 65]), .lit (.bool false)]), (.int .u8 2, .agg [.lit (.string [80, 114, 111, 112, 111, 115, 97, 108]), .lit (.bool false)]), (.int .u8 3, .agg [.lit (.string [84, 114, 97, 110, 115, 102, 111, 114, 109]), .lit (.bool false)]), (.int .u8 4, .agg [.lit (.string [75, 101, 121, 32, 69, 120, 99, 104, 97, 110, 103, 101]), .lit (.bool false)]), (.int .u8 5, .agg [.lit (.string [73, 100, 101, 110, 116, 105, 102, 105, 99, 97, 116, 105, 111, 110]), .lit (.bool false)]), (.int .u8 6, .agg [.lit (.string [67, 101, 114, 116, 105, 102, 105, 99, 97, 116, 101]), .lit (.bool false)]), (.int .u8 7, .agg [.lit (.string [67, 101, 114, 116, 105, 102, 105, 99, 97, 116, 101, 32, 82, 101, 113, 117, 101, 115, 116]), .lit (.bool false)]), (.int .u8 8, .agg [.lit (.string [72, 97, 115, 104]), .lit (.bool false)]), (.int .u8 9, .agg [.lit (.string [83, 105, 103, 110, 97, 116, 117, 114, 101]), .lit (.bool false)]), (.int .u8 10, .agg [.lit (.string [78, 111, 110, 99, 101]), .lit (.bool false)]), (.int .u8 11, .agg [.lit (.string [78, 111, 116, 105, 102, 105, 99, 97, 116, 105, 111, 110]), .lit (.bool false)]), (.int .u8 12, .agg [.lit (.string [68, 101, 108, 101, 116, 101]), .lit (.bool false)]), (.int .u8 13, .agg [.lit (.string [86, 101, 110, 100, 111, 114, 32, 73, 68]), .lit (.bool true)]), (.int .u8 14, .agg [.lit (.string [65, 116, 116, 114, 105, 98, 117, 116, 101]), .lit (.bool false)]), (.int .u8 15, .agg [.lit (.string [83, 65, 32, 75, 69, 75]), .lit (.bool false)]), (.int .u8 16, .agg [.lit (.string [83, 65, 32, 84, 69, 75]), .lit (.bool false)]), (.int .u8 17, .agg [.lit (.string [75, 101, 121, 32, 68, 111, 119, 110, 108, 111, 97, 100]), .lit (.bool false)]), (.int .u8 18, .agg [.lit (.string [83, 101, 113, 117, 101, 110, 99, 101, 32, 78, 117, 109, 98, 101, 114]), .lit (.bool false)]), (.int .u8 19, .agg [.lit (.string [80, 114, 111, 111, 102, 32, 111, 102, 32, 80, 111, 115, 115, 101, 115, 115, 105, 111, 110]), .lit (.bool false)]), (.int .u8 20, .agg [.lit (.string [78, 65, 84, 32, 68, 105, 115, 99, 111, 118, 101, 114, 121]), .lit (.bool true)]), (.int .u8 21, .agg [.lit (.string [78, 65, 84, 32, 79, 114, 105, 103, 105, 110, 97, 108, 32, 65, 100, 100, 114, 101, 115, 115]), .lit (.bool true)]), (.int .u8 22, .agg [.lit (.string [71, 114, 111, 117, 112, 32, 65, 115, 115, 111, 99, 105, 97, 116, 101, 100, 32, 80, 111, 108, 105, 99, 121]), .lit (.bool false)]), (.int .u8 130, .agg [.lit (.string [78, 65, 84, 32, 68, 105, 115, 99, 111, 118, 101, 114, 121, 32, 40, 100, 114, 97, 102, 116, 41]), .lit (.bool true)]), (.int .u8 131, .agg [.lit (.string [78, 65, 84, 32, 79, 114, 105, 103, 105, 110, 97, 108, 32, 65, 100, 100, 114, 101, 115, 115, 32, 40, 100, 114, 97, 102, 116, 41]), .lit (.bool true)])]

/-- 'wire.LawS3122AModel': WHATEVER THE INPUT: true; the input reads as it did. -/
def lawS3122AModelSpec : ChangeSpec := { name := "lawS3122AModel", vars := ["example.com/keyaccord/keyaccord/pkg/wire.payloadTypes"], fn := fun _ => fun
  | [d1, d2, g1] => { results := [.lit (.bool true)], args := [d1, d2], vars := [g1] }
  | _ => none }
def lawS3122AModelRow : OpenClaim := { program := "ybulkblqcfmt", sum := "eda59a1ad20e561bdb3fdd4a5a4e5774030ea983b8a96f428b88d8b37637d3b1", func := "example.com/keyaccord/keyaccord/pkg/wire.LawS3122AModel", spec := "lawS3122AModel", stops := ["fmt.Sprintf, its operands' methods called"], inPlace := ["fmt.Sprintf"], unfollowed := true, recurses := true, named := ["encoding/binary.BigEndian", "example.com/keyaccord/keyaccord/pkg/wire.payloadTypes"], maps := true, apart := false, laid := [("example.com/keyaccord/keyaccord/pkg/wire.payloadTypes", laid_example_com_keyaccord_keyaccord_pkg_wire_payloadTypes)] }
/-- NO THEOREM (fmt's text is open here; it may be false): for the released tool's asking of the row's closed facts alone. THE STATEMENT IS 'LawS3122AModelToldSaid' (YbulkblqcFmtCards.lean). -/
def LawS3122AModelFormAsk : Prop := lawS3122AModelRow.holds Ybaf.pinned (OpenSpec.ofChange lawS3122AModelSpec)

/-- ITS FALSE NEIGHBOUR: 'it returns false'. Refute it at one input. -/
def lawS3122AModelWrong : ChangeSpec := { name := "lawS3122AModel", vars := ["example.com/keyaccord/keyaccord/pkg/wire.payloadTypes"], fn := fun _ => fun
  | [d1, d2, g1] => { results := [.lit (.bool false)], args := [d1, d2], vars := [g1] }
  | _ => none }
def LawS3122AModelWrongFormAsk : Prop := lawS3122AModelRow.holds Ybaf.pinned (OpenSpec.ofChange lawS3122AModelWrong)

/-- 'wire.LawS3122AChain': WHATEVER THE INPUT: true; the input reads as it did. -/
def lawS3122AChainSpec : ChangeSpec := { name := "lawS3122AChain", vars := ["example.com/keyaccord/keyaccord/pkg/wire.payloadTypes"], fn := fun _ => fun
  | [d1, d2, g1] => { results := [.lit (.bool true)], args := [d1, d2], vars := [g1] }
  | _ => none }
def lawS3122AChainRow : OpenClaim := { program := "ybulkblqcfmt", sum := "eda59a1ad20e561bdb3fdd4a5a4e5774030ea983b8a96f428b88d8b37637d3b1", func := "example.com/keyaccord/keyaccord/pkg/wire.LawS3122AChain", spec := "lawS3122AChain", stops := ["fmt.Sprintf, its operands' methods called"], inPlace := ["fmt.Sprintf"], unfollowed := true, recurses := true, named := ["encoding/binary.BigEndian", "example.com/keyaccord/keyaccord/pkg/wire.payloadTypes"], maps := true, apart := false, laid := [("example.com/keyaccord/keyaccord/pkg/wire.payloadTypes", laid_example_com_keyaccord_keyaccord_pkg_wire_payloadTypes)] }
/-- NO THEOREM (fmt's text is open here; it may be false): for the released tool's asking of the row's closed facts alone. THE STATEMENT IS 'LawS3122AChainToldSaid' (YbulkblqcFmtCards.lean). -/
def LawS3122AChainFormAsk : Prop := lawS3122AChainRow.holds Ybaf.pinned (OpenSpec.ofChange lawS3122AChainSpec)

/-- ITS FALSE NEIGHBOUR: 'it returns false'. Refute it at one input. -/
def lawS3122AChainWrong : ChangeSpec := { name := "lawS3122AChain", vars := ["example.com/keyaccord/keyaccord/pkg/wire.payloadTypes"], fn := fun _ => fun
  | [d1, d2, g1] => { results := [.lit (.bool false)], args := [d1, d2], vars := [g1] }
  | _ => none }
def LawS3122AChainWrongFormAsk : Prop := lawS3122AChainRow.holds Ybaf.pinned (OpenSpec.ofChange lawS3122AChainWrong)

/-- 'doi.LawS3122BPlain': WHATEVER THE INPUT: true; the input reads as it did. -/
def lawS3122BPlainSpec : ChangeSpec := { name := "lawS3122BPlain", fn := fun _ => fun
  | [d] => { results := [.lit (.bool true)], args := [d] }
  | _ => none }
def lawS3122BPlainRow : OpenClaim := { program := "ybulkblqcfmt", sum := "eda59a1ad20e561bdb3fdd4a5a4e5774030ea983b8a96f428b88d8b37637d3b1", func := "example.com/keyaccord/keyaccord/pkg/doi.LawS3122BPlain", spec := "lawS3122BPlain", stops := ["fmt.Sprintf, its operands' methods called"], inPlace := ["fmt.Fprintf", "fmt.Sprintf", "internal/abi.NoEscape"], unfollowed := true, recurses := true, apart := false }
/-- NO THEOREM (fmt's text is open here; it may be false): for the released tool's asking of the row's closed facts alone. THE STATEMENT IS 'LawS3122BPlainToldSaid' (YbulkblqcFmtCards.lean). -/
def LawS3122BPlainFormAsk : Prop := lawS3122BPlainRow.holds Ybaf.pinned (OpenSpec.ofChange lawS3122BPlainSpec)

/-- ITS FALSE NEIGHBOUR: 'it returns false'. Refute it at one input. -/
def lawS3122BPlainWrong : ChangeSpec := { name := "lawS3122BPlain", fn := fun _ => fun
  | [d] => { results := [.lit (.bool false)], args := [d] }
  | _ => none }
def LawS3122BPlainWrongFormAsk : Prop := lawS3122BPlainRow.holds Ybaf.pinned (OpenSpec.ofChange lawS3122BPlainWrong)

end Rows
end Go.Proofs.YbulkblqcFmt
