/-
  DERIVED. GIVEN WITH THE SEED: THE PROGRAM's TIES (one call each: nine closed facts by the kernel) AND EACH ROW's TIE, after the 31st guide's Derived/Test/Toyas{Tie, Card}.lean. No idea stands in it: it is a product of the set-up. Laid BY PROGRAM, IN A SANDBOX (cutbox-door.mjs). By AI agents, Wed Nov 11 2026. No macro, syntax, notation, axiom, sorry.
-/
import Derived.Test.YbulkxzmFmtRows
import Derived.LaidByTextLater
import Derived.SevenTiedAt
import Derived.LaidSub
import Derived.LaidOnce
namespace Go.Proofs.YbulkxzmFmt
open Go
set_option maxRecDepth 100000
theorem seatTie1 : Ybaf.prog.laidByTextLater [("example.com/waitwarden/waitwarden.ErrUnknownTransaction", Rows.laid_example_com_waitwarden_waitwarden_ErrUnknownTransaction), ("example.com/waitwarden/waitwarden.ErrExists", Rows.laid_example_com_waitwarden_waitwarden_ErrExists), ("example.com/waitwarden/waitwarden.ErrNotActive", Rows.laid_example_com_waitwarden_waitwarden_ErrNotActive)] [.sentinel, .sentinel, .sentinel] true :=
  Program.laidByTextLater_by_one 66 8 2 (by kernel_rfl) (by kernel_rfl) (by kernel_rfl) (by kernel_rfl) (by kernel_rfl) (by kernel_rfl) (fun _ _ => by kernel_rfl)
theorem noOwnUnsafe : Ybaf.pinned.checked.prog.headLifts.contains "ownunsafe" = false := by kernel_rfl
theorem tie : Ybaf.prog.laidByTextLater [("example.com/waitwarden/waitwarden.ErrUnknownTransaction", Rows.laid_example_com_waitwarden_waitwarden_ErrUnknownTransaction)] [.sentinel] true :=
  Program.laidByTextLater.sub seatTie1 ["example.com/waitwarden/waitwarden.ErrUnknownTransaction"] (by kernel_rfl) (by kernel_rfl)
theorem lawS1208BNoneBegunZero_row_tie : Rows.lawS1208BNoneBegunZeroRow.laidByTextAt .later Ybaf.pinned [.sentinel] true :=
  OpenClaim.laidByTextAt_later rfl rfl tie noOwnUnsafe
theorem tie2 : Ybaf.prog.laidByTextLater [("example.com/waitwarden/waitwarden.ErrUnknownTransaction", Rows.laid_example_com_waitwarden_waitwarden_ErrUnknownTransaction), ("example.com/waitwarden/waitwarden.ErrExists", Rows.laid_example_com_waitwarden_waitwarden_ErrExists), ("example.com/waitwarden/waitwarden.ErrNotActive", Rows.laid_example_com_waitwarden_waitwarden_ErrNotActive)] [.sentinel, .sentinel, .sentinel] true :=
  Program.laidByTextLater.sub seatTie1 ["example.com/waitwarden/waitwarden.ErrUnknownTransaction", "example.com/waitwarden/waitwarden.ErrExists", "example.com/waitwarden/waitwarden.ErrNotActive"] (by kernel_rfl) (by kernel_rfl)
theorem lawS1208CBegin_row_tie : Rows.lawS1208CBeginRow.laidByTextAt .later Ybaf.pinned [.sentinel, .sentinel, .sentinel] true :=
  OpenClaim.laidByTextAt_later rfl rfl tie2 noOwnUnsafe
theorem lawS1208COrder_row_tie : Rows.lawS1208COrderRow.laidByTextAt .later Ybaf.pinned [.sentinel, .sentinel, .sentinel] true :=
  OpenClaim.laidByTextAt_later rfl rfl tie2 noOwnUnsafe
end Go.Proofs.YbulkxzmFmt
