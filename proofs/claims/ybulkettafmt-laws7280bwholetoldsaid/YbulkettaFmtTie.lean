/-
  DERIVED. GIVEN WITH THE SEED: THE PROGRAM's TIES (one call each: nine closed facts by the kernel) AND EACH ROW's TIE, after the 31st guide's Derived/Test/Toyas{Tie, Card}.lean. No idea stands in it: it is a product of the set-up. Laid BY PROGRAM, IN A SANDBOX (cutbox-door.mjs). By AI agents, Wed Nov 11 2026. No macro, syntax, notation, axiom, sorry.
-/
import Derived.Test.YbulkettaFmtRows
import Derived.LaidByTextLater
import Derived.SevenTiedAt
import Derived.LaidSub
import Derived.LaidOnce
namespace Go.Proofs.YbulkettaFmt
open Go
set_option maxRecDepth 100000
theorem seatTie1 : Ybaf.prog.laidByTextLater [("example.com/tenure/tenure/internal/registry.ErrNotFound", Rows.laid_example_com_tenure_tenure_internal_registry_ErrNotFound), ("example.com/tenure/tenure/internal/registry.ErrNotSponsor", Rows.laid_example_com_tenure_tenure_internal_registry_ErrNotSponsor), ("example.com/tenure/tenure/internal/registry.ErrStatusProhibits", Rows.laid_example_com_tenure_tenure_internal_registry_ErrStatusProhibits)] [.sentinel, .sentinel, .sentinel] true :=
  Program.laidByTextLater_by_one 66 8 2 (by kernel_rfl) (by kernel_rfl) (by kernel_rfl) (by kernel_rfl) (by kernel_rfl) (by kernel_rfl) (fun _ _ => by kernel_rfl)
theorem noOwnUnsafe : Ybaf.pinned.checked.prog.headLifts.contains "ownunsafe" = false := by kernel_rfl
theorem tie : Ybaf.prog.laidByTextLater [("example.com/tenure/tenure/internal/registry.ErrNotFound", Rows.laid_example_com_tenure_tenure_internal_registry_ErrNotFound), ("example.com/tenure/tenure/internal/registry.ErrNotSponsor", Rows.laid_example_com_tenure_tenure_internal_registry_ErrNotSponsor)] [.sentinel, .sentinel] true :=
  Program.laidByTextLater.sub seatTie1 ["example.com/tenure/tenure/internal/registry.ErrNotFound", "example.com/tenure/tenure/internal/registry.ErrNotSponsor"] (by kernel_rfl) (by kernel_rfl)
theorem lawS7280BWhole_row_tie : Rows.lawS7280BWholeRow.laidByTextAt .later Ybaf.pinned [.sentinel, .sentinel] true :=
  OpenClaim.laidByTextAt_later rfl rfl tie noOwnUnsafe
theorem tie2 : Ybaf.prog.laidByTextLater [("example.com/tenure/tenure/internal/registry.ErrStatusProhibits", Rows.laid_example_com_tenure_tenure_internal_registry_ErrStatusProhibits)] [.sentinel] true :=
  Program.laidByTextLater.sub seatTie1 ["example.com/tenure/tenure/internal/registry.ErrStatusProhibits"] (by kernel_rfl) (by kernel_rfl)
theorem lawS7280CWhole_row_tie : Rows.lawS7280CWholeRow.laidByTextAt .later Ybaf.pinned [.sentinel] true :=
  OpenClaim.laidByTextAt_later rfl rfl tie2 noOwnUnsafe
end Go.Proofs.YbulkettaFmt
