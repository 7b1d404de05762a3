/-
  DERIVED. GIVEN WITH THE SEED: THE PROGRAM's TIES (one call each: nine closed facts by the kernel) AND EACH ROW's TIE, after the 31st guide's Derived/Test/Toyas{Tie, Card}.lean. No idea stands in it: it is a product of the set-up. Laid BY PROGRAM, IN A SANDBOX (cutbox-door.mjs). By AI agents, Wed Nov 11 2026. No macro, syntax, notation, axiom, sorry.
-/
import Derived.Test.YbulkcyssDoorRows
import Derived.LaidByTextLater
import Derived.SevenTiedAt
import Derived.LaidSub
import Derived.LaidOnce
namespace Go.Proofs.YbulkcyssDoor
open Go
set_option maxRecDepth 100000
theorem seatTie1 : Ybad.prog.laidByTextLater [("example.com/nimble-signet/nimble-signet/sigv4.ErrMalformedRequest", Rows.laid_example_com_nimble_signet_nimble_signet_sigv4_ErrMalformedRequest), ("example.com/nimble-signet/nimble-signet/sigv4.ErrWrongScope", Rows.laid_example_com_nimble_signet_nimble_signet_sigv4_ErrWrongScope), ("example.com/nimble-signet/nimble-signet/sigv4.ErrClockSkew", Rows.laid_example_com_nimble_signet_nimble_signet_sigv4_ErrClockSkew), ("example.com/nimble-signet/nimble-signet/sigv4.ErrExpired", Rows.laid_example_com_nimble_signet_nimble_signet_sigv4_ErrExpired), ("example.com/nimble-signet/nimble-signet/sigv4.ErrBadSignature", Rows.laid_example_com_nimble_signet_nimble_signet_sigv4_ErrBadSignature), ("example.com/nimble-signet/nimble-signet/sigv4.ErrBodyTooLarge", Rows.laid_example_com_nimble_signet_nimble_signet_sigv4_ErrBodyTooLarge), ("example.com/nimble-signet/nimble-signet/sigv4.ErrUnsignedPayload", Rows.laid_example_com_nimble_signet_nimble_signet_sigv4_ErrUnsignedPayload)] [.sentinel, .sentinel, .sentinel, .sentinel, .sentinel, .sentinel, .sentinel] true :=
  Program.laidByTextLater_by_one 142 8 2 (by kernel_rfl) (by kernel_rfl) (by kernel_rfl) (by kernel_rfl) (by kernel_rfl) (by kernel_rfl) (fun _ _ => by kernel_rfl)
theorem noOwnUnsafe : Ybad.pinned.checked.prog.headLifts.contains "ownunsafe" = false := by kernel_rfl
theorem tie : Ybad.prog.laidByTextLater [("example.com/nimble-signet/nimble-signet/sigv4.ErrMalformedRequest", Rows.laid_example_com_nimble_signet_nimble_signet_sigv4_ErrMalformedRequest), ("example.com/nimble-signet/nimble-signet/sigv4.ErrWrongScope", Rows.laid_example_com_nimble_signet_nimble_signet_sigv4_ErrWrongScope), ("example.com/nimble-signet/nimble-signet/sigv4.ErrClockSkew", Rows.laid_example_com_nimble_signet_nimble_signet_sigv4_ErrClockSkew), ("example.com/nimble-signet/nimble-signet/sigv4.ErrExpired", Rows.laid_example_com_nimble_signet_nimble_signet_sigv4_ErrExpired), ("example.com/nimble-signet/nimble-signet/sigv4.ErrBadSignature", Rows.laid_example_com_nimble_signet_nimble_signet_sigv4_ErrBadSignature), ("example.com/nimble-signet/nimble-signet/sigv4.ErrBodyTooLarge", Rows.laid_example_com_nimble_signet_nimble_signet_sigv4_ErrBodyTooLarge), ("example.com/nimble-signet/nimble-signet/sigv4.ErrUnsignedPayload", Rows.laid_example_com_nimble_signet_nimble_signet_sigv4_ErrUnsignedPayload)] [.sentinel, .sentinel, .sentinel, .sentinel, .sentinel, .sentinel, .sentinel] true :=
  Program.laidByTextLater.sub seatTie1 ["example.com/nimble-signet/nimble-signet/sigv4.ErrMalformedRequest", "example.com/nimble-signet/nimble-signet/sigv4.ErrWrongScope", "example.com/nimble-signet/nimble-signet/sigv4.ErrClockSkew", "example.com/nimble-signet/nimble-signet/sigv4.ErrExpired", "example.com/nimble-signet/nimble-signet/sigv4.ErrBadSignature", "example.com/nimble-signet/nimble-signet/sigv4.ErrBodyTooLarge", "example.com/nimble-signet/nimble-signet/sigv4.ErrUnsignedPayload"] (by kernel_rfl) (by kernel_rfl)
theorem lawS5010AChain_row_tie : Rows.lawS5010AChainRow.laidByTextAt .later Ybad.pinned [.sentinel, .sentinel, .sentinel, .sentinel, .sentinel, .sentinel, .sentinel] true :=
  OpenClaim.laidByTextAt_later rfl rfl tie noOwnUnsafe
theorem lawS5010AJoined_row_tie : Rows.lawS5010AJoinedRow.laidByTextAt .later Ybad.pinned [.sentinel, .sentinel, .sentinel, .sentinel, .sentinel, .sentinel, .sentinel] true :=
  OpenClaim.laidByTextAt_later rfl rfl tie noOwnUnsafe
end Go.Proofs.YbulkcyssDoor
