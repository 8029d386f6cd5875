/-
  DERIVED. GIVEN WITH THE SEED: THE PROGRAM's TIES (one call each: nine closed facts by the kernel) AND EACH ROW's TIE, after the 31st guide's Derived/Test/Toyas{Tie, Card}.lean. No idea stands in it: it is a product of the set-up. Laid BY PROGRAM, IN A SANDBOX (cutbox-door.mjs). By AI agents, Wed Nov 11 2026. No macro, syntax, notation, axiom, sorry.
-/
import Derived.Test.YbulkblqcFmtRows
import Derived.LaidByTextLater
import Derived.SevenTiedAt
import Derived.LaidSub
import Derived.LaidOnce
namespace Go.Proofs.YbulkblqcFmt
open Go
set_option maxRecDepth 100000
theorem seatTie1 : Ybaf.prog.laidByTextLater [("example.com/keyaccord/keyaccord/pkg/wire.payloadTypes", Rows.laid_example_com_keyaccord_keyaccord_pkg_wire_payloadTypes)] [.mapped] true :=
  Program.laidByTextLater_by_one 158 8 2 (by kernel_rfl) (by kernel_rfl) (by kernel_rfl) (by kernel_rfl) (by kernel_rfl) (by kernel_rfl) (fun _ _ => by kernel_rfl)
theorem noOwnUnsafe : Ybaf.pinned.checked.prog.headLifts.contains "ownunsafe" = false := by kernel_rfl
theorem tie : Ybaf.prog.laidByTextLater [("example.com/keyaccord/keyaccord/pkg/wire.payloadTypes", Rows.laid_example_com_keyaccord_keyaccord_pkg_wire_payloadTypes)] [.mapped] true :=
  Program.laidByTextLater.sub seatTie1 ["example.com/keyaccord/keyaccord/pkg/wire.payloadTypes"] (by kernel_rfl) (by kernel_rfl)
theorem lawS3122AModel_row_tie : Rows.lawS3122AModelRow.laidByTextAt .later Ybaf.pinned [.mapped] true :=
  OpenClaim.laidByTextAt_later rfl rfl tie noOwnUnsafe
theorem lawS3122AChain_row_tie : Rows.lawS3122AChainRow.laidByTextAt .later Ybaf.pinned [.mapped] true :=
  OpenClaim.laidByTextAt_later rfl rfl tie noOwnUnsafe
end Go.Proofs.YbulkblqcFmt
