/-
  DERIVED. GIVEN WITH THE SEED: THE PROGRAM's TIES (one call each: nine closed facts by the kernel) AND EACH ROW's TIE, after the 31st guide's Derived/Test/Toyas{Tie, Card}.lean. No idea stands in it: it is a product of the set-up. Laid BY PROGRAM, IN A SANDBOX (cutbox-door.mjs). By AI agents, Wed Nov 11 2026. No macro, syntax, notation, axiom, sorry.
-/
import Derived.Test.YbulkcbuFmtRows
import Derived.LaidByTextLater
import Derived.SevenTiedAt
import Derived.LaidSub
import Derived.LaidOnce
namespace Go.Proofs.YbulkcbuFmt
open Go
set_option maxRecDepth 100000
theorem seatTie1 : Ybaf.prog.laidByTextLater [("example.com/bearershift/bearershift.serviceNames", Rows.laid_example_com_bearershift_bearershift_serviceNames), ("example.com/bearershift/bearershift.forwardingReasonNames", Rows.laid_example_com_bearershift_bearershift_forwardingReasonNames)] [.widerDeep, .widerDeep] true :=
  Program.laidByTextLater_by_one 44 8 193 (by kernel_rfl) (by kernel_rfl) (by kernel_rfl) (by kernel_rfl) (by kernel_rfl) (by kernel_rfl) (fun _ _ => by kernel_rfl)
theorem noOwnUnsafe : Ybaf.pinned.checked.prog.headLifts.contains "ownunsafe" = false := by kernel_rfl
theorem tie : Ybaf.prog.laidByTextLater [("example.com/bearershift/bearershift.serviceNames", Rows.laid_example_com_bearershift_bearershift_serviceNames), ("example.com/bearershift/bearershift.forwardingReasonNames", Rows.laid_example_com_bearershift_bearershift_forwardingReasonNames)] [.widerDeep, .widerDeep] true :=
  Program.laidByTextLater.sub seatTie1 ["example.com/bearershift/bearershift.serviceNames", "example.com/bearershift/bearershift.forwardingReasonNames"] (by kernel_rfl) (by kernel_rfl)
theorem lawS0150AReads_row_tie : Rows.lawS0150AReadsRow.laidByTextAt .later Ybaf.pinned [.widerDeep, .widerDeep] true :=
  OpenClaim.laidByTextAt_later rfl rfl tie noOwnUnsafe
theorem tie2 : Ybaf.prog.laidByTextLater [("example.com/bearershift/bearershift.serviceNames", Rows.laid_example_com_bearershift_bearershift_serviceNames)] [.widerDeep] true :=
  Program.laidByTextLater.sub seatTie1 ["example.com/bearershift/bearershift.serviceNames"] (by kernel_rfl) (by kernel_rfl)
theorem lawS0150CNames_row_tie : Rows.lawS0150CNamesRow.laidByTextAt .later Ybaf.pinned [.widerDeep] true :=
  OpenClaim.laidByTextAt_later rfl rfl tie2 noOwnUnsafe
theorem lawS0150CRoundTrip_row_tie : Rows.lawS0150CRoundTripRow.laidByTextAt .later Ybaf.pinned [.widerDeep] true :=
  OpenClaim.laidByTextAt_later rfl rfl tie2 noOwnUnsafe
end Go.Proofs.YbulkcbuFmt
