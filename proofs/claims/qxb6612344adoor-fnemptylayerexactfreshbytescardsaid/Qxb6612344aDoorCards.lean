/-
  DERIVED. GIVEN WITH THE SEED: THE CARDS: each row of Qxb6612344aDoorRows.lean that lists a variable, with what it lists TIED to the program's text (the seventh form; the later family's looks); each row that meets fmt, with fmt's text TOLD by the authors' own Lean function (tested against real Go, not proved from fmt's source: count such statements apart). THE CARD IS WHAT COUNTS. Prove the row's statement (the work); the ties are given (Qxb6612344aDoorTie.lean); close each card by the builder's one call (the guide's Derived/Test/ToyasCard.lean, 'card_holds'). Laid BY PROGRAM, IN A SANDBOX (cutbox-door.mjs). By AI agents, Wed Nov 11 2026. No macro, syntax, notation, axiom, sorry.
-/
import Derived.Test.Qxb6612344aDoorRows
import GoSem.ClaimSeven
namespace Go.Proofs.Qxb6612344aDoor
namespace Rows

/-- THE TIED CARD OF 'zzlaws_manifest_b1.FnEmptyLayerExactFreshBytes'. -/
def fnEmptyLayerExactFreshBytesCard : Claim7 := { stood := { row := fnEmptyLayerExactFreshBytesRow, standIns := [], harness := (true, "e35bd0bee733113c098e37a55d9d530b40c9a0f77b5fab63235bda8c498bcb56"), looks := false }, kinds := [], alts := [], laidByText := true, laidKinds := [.widerDeep], laidTests := true, laidLooks := .later }
def FnEmptyLayerExactFreshBytesCardSaid : Prop := Claim7.holds Tryd.pinned (.plain (OpenSpec.ofChange fnEmptyLayerExactFreshBytesSpec)) fnEmptyLayerExactFreshBytesCard

/-- THE TIED CARD OF 'zzlaws_manifest_b1.FnEmptyLayerDigestIsDockerEmptyBlob'. -/
def fnEmptyLayerDigestIsDockerEmptyBlobCard : Claim7 := { stood := { row := fnEmptyLayerDigestIsDockerEmptyBlobRow, standIns := [], harness := (true, "e35bd0bee733113c098e37a55d9d530b40c9a0f77b5fab63235bda8c498bcb56"), looks := false }, kinds := [], alts := [], laidByText := true, laidKinds := [.widerDeep], laidTests := true, laidLooks := .later }
def FnEmptyLayerDigestIsDockerEmptyBlobCardSaid : Prop := Claim7.holds Tryd.pinned (.plain (OpenSpec.ofChange fnEmptyLayerDigestIsDockerEmptyBlobSpec)) fnEmptyLayerDigestIsDockerEmptyBlobCard
end Rows
end Go.Proofs.Qxb6612344aDoor
