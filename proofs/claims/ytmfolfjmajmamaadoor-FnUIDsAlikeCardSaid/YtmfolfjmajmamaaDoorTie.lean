/-
  DERIVED. GIVEN WITH THE SEED: THE PROGRAM's TIES (one call each: nine closed facts by the kernel) AND EACH ROW's TIE, after the 31st guide's Derived/Test/Toyas{Tie, Card}.lean. No idea stands in it: it is a product of the set-up. Laid BY PROGRAM, IN A SANDBOX (cutbox-door.mjs). By AI agents, Wed Nov 11 2026. No macro, syntax, notation, axiom, sorry.
-/
import Derived.Test.YtmfolfjmajmamaaDoorRows
import Derived.LaidByTextLater
import Derived.SevenTiedAt
import Derived.LaidSub
import Derived.LaidOnce
namespace Go.Proofs.YtmfolfjmajmamaaDoor
open Go
set_option maxRecDepth 100000
theorem seatTie1 : Tryd.prog.laidByTextLater [("pub-claviger/pub/cedargo/inner/mapset.peppercorn", Rows.laid_pub_claviger_pub_cedargo_inner_mapset_peppercorn)] [.data] true :=
  Program.laidByTextLater_by_one 14 8 2 (by kernel_rfl) (by kernel_rfl) (by kernel_rfl) (by kernel_rfl) (by kernel_rfl) (by kernel_rfl) (fun _ _ => by kernel_rfl)
theorem noOwnUnsafe : Tryd.pinned.checked.prog.headLifts.contains "ownunsafe" = false := by kernel_rfl
theorem tie : Tryd.prog.laidByTextLater [("pub-claviger/pub/cedargo/inner/mapset.peppercorn", Rows.laid_pub_claviger_pub_cedargo_inner_mapset_peppercorn)] [.data] true :=
  Program.laidByTextLater.sub seatTie1 ["pub-claviger/pub/cedargo/inner/mapset.peppercorn"] (by kernel_rfl) (by kernel_rfl)
theorem fnUIDStepsList_row_tie : Rows.fnUIDStepsListRow.laidByTextAt .later Tryd.pinned [.data] true :=
  OpenClaim.laidByTextAt_later rfl rfl tie noOwnUnsafe
theorem fnUIDsAlike_row_tie : Rows.fnUIDsAlikeRow.laidByTextAt .later Tryd.pinned [.data] true :=
  OpenClaim.laidByTextAt_later rfl rfl tie noOwnUnsafe
theorem fnUIDStepsListUpto_row_tie : Rows.fnUIDStepsListUptoRow.laidByTextAt .later Tryd.pinned [.data] true :=
  OpenClaim.laidByTextAt_later rfl rfl tie noOwnUnsafe
theorem fnUIDsAlikeUpto_row_tie : Rows.fnUIDsAlikeUptoRow.laidByTextAt .later Tryd.pinned [.data] true :=
  OpenClaim.laidByTextAt_later rfl rfl tie noOwnUnsafe
end Go.Proofs.YtmfolfjmajmamaaDoor
