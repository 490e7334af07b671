/-
  DERIVED. GIVEN WITH THE SEED: THE PROGRAM's TIES (one call each: nine closed facts by the kernel) AND EACH ROW's TIE, after the 31st guide's Derived/Test/Toyas{Tie, Card}.lean. No idea stands in it: it is a product of the set-up. Laid BY PROGRAM, IN A SANDBOX (cutbox-door.mjs). By AI agents, Wed Nov 11 2026. No macro, syntax, notation, axiom, sorry.
-/
import Derived.Test.YbulkbftsFmtRows
import Derived.LaidByTextLater
import Derived.SevenTiedAt
import Derived.LaidSub
import Derived.LaidOnce
namespace Go.Proofs.YbulkbftsFmt
open Go
set_option maxRecDepth 100000
theorem seatTie1 : Ybaf.prog.laidByTextLater [("example.com/vestledger/vestledger/pkg/ledger.actionKinds", Rows.laid_example_com_vestledger_vestledger_pkg_ledger_actionKinds)] [.widerDeep] true :=
  Program.laidByTextLater_by_one 23 8 16 (by kernel_rfl) (by kernel_rfl) (by kernel_rfl) (by kernel_rfl) (by kernel_rfl) (by kernel_rfl) (fun _ _ => by kernel_rfl)
theorem noOwnUnsafe : Ybaf.pinned.checked.prog.headLifts.contains "ownunsafe" = false := by kernel_rfl
theorem tie : Ybaf.prog.laidByTextLater [("example.com/vestledger/vestledger/pkg/ledger.actionKinds", Rows.laid_example_com_vestledger_vestledger_pkg_ledger_actionKinds)] [.widerDeep] true :=
  Program.laidByTextLater.sub seatTie1 ["example.com/vestledger/vestledger/pkg/ledger.actionKinds"] (by kernel_rfl) (by kernel_rfl)
theorem lawS2839BDecode_row_tie : Rows.lawS2839BDecodeRow.laidByTextAt .later Ybaf.pinned [.widerDeep] true :=
  OpenClaim.laidByTextAt_later rfl rfl tie noOwnUnsafe
theorem lawS2839BRoundTrip_row_tie : Rows.lawS2839BRoundTripRow.laidByTextAt .later Ybaf.pinned [.widerDeep] true :=
  OpenClaim.laidByTextAt_later rfl rfl tie noOwnUnsafe
end Go.Proofs.YbulkbftsFmt
