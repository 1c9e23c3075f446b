/-
  DERIVED. GIVEN WITH THE SEED: THE PROGRAM's TIES (one call each: nine closed facts by the kernel) AND EACH ROW's TIE, after the 31st guide's Derived/Test/Toyas{Tie, Card}.lean. No idea stands in it: it is a product of the set-up. Laid BY PROGRAM, IN A SANDBOX (cutbox-door.mjs). By AI agents, Wed Nov 11 2026. No macro, syntax, notation, axiom, sorry.
-/
import Derived.Test.YbulkaqwaFmtRows
import Derived.LaidByTextLater
import Derived.SevenTiedAt
import Derived.LaidSub
import Derived.LaidOnce
namespace Go.Proofs.YbulkaqwaFmt
open Go
set_option maxRecDepth 100000
theorem seatTie1 : Ybaf.prog.laidByTextLater [("encoding/hex.ErrLength", Rows.laid_encoding_hex_ErrLength), ("example.com/sluice/sluice.ErrInvalidAddress", Rows.laid_example_com_sluice_sluice_ErrInvalidAddress), ("example.com/sluice/sluice.StakingAddress", Rows.laid_example_com_sluice_sluice_StakingAddress), ("example.com/sluice/sluice.ErrInvalidParams", Rows.laid_example_com_sluice_sluice_ErrInvalidParams)] [.sentinel, .sentinel, .data, .sentinel] true :=
  Program.laidByTextLater_by_one 110 8 65 (by kernel_rfl) (by kernel_rfl) (by kernel_rfl) (by kernel_rfl) (by kernel_rfl) (by kernel_rfl) (fun _ _ => by kernel_rfl)
theorem noOwnUnsafe : Ybaf.pinned.checked.prog.headLifts.contains "ownunsafe" = false := by kernel_rfl
theorem tie : Ybaf.prog.laidByTextLater [("encoding/hex.ErrLength", Rows.laid_encoding_hex_ErrLength), ("example.com/sluice/sluice.ErrInvalidAddress", Rows.laid_example_com_sluice_sluice_ErrInvalidAddress)] [.sentinel, .sentinel] true :=
  Program.laidByTextLater.sub seatTie1 ["encoding/hex.ErrLength", "example.com/sluice/sluice.ErrInvalidAddress"] (by kernel_rfl) (by kernel_rfl)
theorem lawS2119ARoundTrip_row_tie : Rows.lawS2119ARoundTripRow.laidByTextAt .later Ybaf.pinned [.sentinel, .sentinel] true :=
  OpenClaim.laidByTextAt_later rfl rfl tie noOwnUnsafe
theorem tie2 : Ybaf.prog.laidByTextLater [("example.com/sluice/sluice.ErrInvalidParams", Rows.laid_example_com_sluice_sluice_ErrInvalidParams)] [.sentinel] true :=
  Program.laidByTextLater.sub seatTie1 ["example.com/sluice/sluice.ErrInvalidParams"] (by kernel_rfl) (by kernel_rfl)
theorem lawS2119BAgree_row_tie : Rows.lawS2119BAgreeRow.laidByTextAt .later Ybaf.pinned [.sentinel] true :=
  OpenClaim.laidByTextAt_later rfl rfl tie2 noOwnUnsafe
theorem tie3 : Ybaf.prog.laidByTextLater [("example.com/sluice/sluice.StakingAddress", Rows.laid_example_com_sluice_sluice_StakingAddress), ("example.com/sluice/sluice.ErrInvalidParams", Rows.laid_example_com_sluice_sluice_ErrInvalidParams)] [.data, .sentinel] true :=
  Program.laidByTextLater.sub seatTie1 ["example.com/sluice/sluice.StakingAddress", "example.com/sluice/sluice.ErrInvalidParams"] (by kernel_rfl) (by kernel_rfl)
theorem lawS2119BWellFormed_row_tie : Rows.lawS2119BWellFormedRow.laidByTextAt .later Ybaf.pinned [.data, .sentinel] true :=
  OpenClaim.laidByTextAt_later rfl rfl tie3 noOwnUnsafe
end Go.Proofs.YbulkaqwaFmt
