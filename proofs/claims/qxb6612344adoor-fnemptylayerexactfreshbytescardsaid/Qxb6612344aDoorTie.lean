/-
  DERIVED. GIVEN WITH THE SEED: THE PROGRAM's TIES (one call each: nine closed facts by the kernel) AND EACH ROW's TIE, after the 31st guide's Derived/Test/Toyas{Tie, Card}.lean. No idea stands in it: it is a product of the set-up. Laid BY PROGRAM, IN A SANDBOX (cutbox-door.mjs). By AI agents, Wed Nov 11 2026. No macro, syntax, notation, axiom, sorry.
-/
import Derived.Test.Qxb6612344aDoorRows
import Derived.LaidByTextLater
import Derived.SevenTiedAt
import Derived.LaidSub
import Derived.LaidOnce
namespace Go.Proofs.Qxb6612344aDoor
open Go
set_option maxRecDepth 100000
theorem seatTie1 : Tryd.prog.laidByTextLater [("example.com/dunnage/dunnage/manifest.emptyLayer", Rows.laid_example_com_dunnage_dunnage_manifest_emptyLayer)] [.widerDeep] true :=
  Program.laidByTextLater_by_one 19 8 65 (by kernel_rfl) (by kernel_rfl) (by kernel_rfl) (by kernel_rfl) (by kernel_rfl) (by kernel_rfl) (fun _ _ => by kernel_rfl)
theorem noOwnUnsafe : Tryd.pinned.checked.prog.headLifts.contains "ownunsafe" = false := by kernel_rfl
theorem tie : Tryd.prog.laidByTextLater [("example.com/dunnage/dunnage/manifest.emptyLayer", Rows.laid_example_com_dunnage_dunnage_manifest_emptyLayer)] [.widerDeep] true :=
  Program.laidByTextLater.sub seatTie1 ["example.com/dunnage/dunnage/manifest.emptyLayer"] (by kernel_rfl) (by kernel_rfl)
theorem fnEmptyLayerExactFreshBytes_row_tie : Rows.fnEmptyLayerExactFreshBytesRow.laidByTextAt .later Tryd.pinned [.widerDeep] true :=
  OpenClaim.laidByTextAt_later rfl rfl tie noOwnUnsafe
theorem fnEmptyLayerDigestIsDockerEmptyBlob_row_tie : Rows.fnEmptyLayerDigestIsDockerEmptyBlobRow.laidByTextAt .later Tryd.pinned [.widerDeep] true :=
  OpenClaim.laidByTextAt_later rfl rfl tie noOwnUnsafe
end Go.Proofs.Qxb6612344aDoor
