/-
  DERIVED. GIVEN WITH THE SEED: THE PROGRAM's TIES (one call each: nine closed facts by the kernel) AND EACH ROW's TIE, after the 31st guide's Derived/Test/Toyas{Tie, Card}.lean. No idea stands in it: it is a product of the set-up. Laid BY PROGRAM, IN A SANDBOX (cutbox-door.mjs). By AI agents, Wed Nov 11 2026. No macro, syntax, notation, axiom, sorry.
-/
import Derived.Test.YbulkblsgFmtRows
import Derived.LaidByTextLater
import Derived.SevenTiedAt
import Derived.LaidSub
import Derived.LaidOnce
namespace Go.Proofs.YbulkblsgFmt
open Go
set_option maxRecDepth 100000
theorem seatTie1 : Ybaf.prog.laidByTextLater [("net/netip.z4", Rows.laid_net_netip_z4), ("net/netip.z6noz", Rows.laid_net_netip_z6noz), ("example.com/rebeat/rebeat/internal/capture.errFragmented", Rows.laid_example_com_rebeat_rebeat_internal_capture_errFragmented)] [.called, .called, .sentinel] true :=
  Program.laidByTextLater_by_one 55 8 65 (by kernel_rfl) (by kernel_rfl) (by kernel_rfl) (by kernel_rfl) (by kernel_rfl) (by kernel_rfl) (fun _ _ => by kernel_rfl)
theorem noOwnUnsafe : Ybaf.pinned.checked.prog.headLifts.contains "ownunsafe" = false := by kernel_rfl
theorem tie : Ybaf.prog.laidByTextLater [("net/netip.z4", Rows.laid_net_netip_z4), ("net/netip.z6noz", Rows.laid_net_netip_z6noz), ("example.com/rebeat/rebeat/internal/capture.errFragmented", Rows.laid_example_com_rebeat_rebeat_internal_capture_errFragmented)] [.called, .called, .sentinel] true :=
  Program.laidByTextLater.sub seatTie1 ["net/netip.z4", "net/netip.z6noz", "example.com/rebeat/rebeat/internal/capture.errFragmented"] (by kernel_rfl) (by kernel_rfl)
theorem lawS3126CBuilt_row_tie : Rows.lawS3126CBuiltRow.laidByTextAt .later Ybaf.pinned [.called, .called, .sentinel] true :=
  OpenClaim.laidByTextAt_later rfl rfl tie noOwnUnsafe
theorem lawS3126CRaw_row_tie : Rows.lawS3126CRawRow.laidByTextAt .later Ybaf.pinned [.called, .called, .sentinel] true :=
  OpenClaim.laidByTextAt_later rfl rfl tie noOwnUnsafe
end Go.Proofs.YbulkblsgFmt
