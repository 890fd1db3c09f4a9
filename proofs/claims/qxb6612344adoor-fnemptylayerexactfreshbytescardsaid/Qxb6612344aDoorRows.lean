/-
  NARROWER THAN 'FOR EVERY INPUT', by the rows' own cells (each row's printed sentence says how): FnEmptyLayerExactFreshBytes: laid · FnEmptyLayerDigestIsDockerEmptyBlob: laid.
  DERIVED. THE GIVEN ROWS OF THIS SEAT. 2 by the template 'for every input the law returns true; each argument reads behind the call as it read before'; 0 by the template 'total and deterministic' (their statements: Qxb6612344aDoorTotals.lean).
  GIVEN WITH THE SEED: the statements are not yours to turn. If you find one false, say at which input.
  Laid BY PROGRAM, IN A SANDBOX (cutbox-rows.mjs): the forced cells as the released guide's own fill.sh prints them over the translation 251eec879c1deb7d… (all of the seat's roots in one cut). By AI agents, Wed Nov 11 2026. No macro, syntax, notation, axiom, sorry.
-/
import Derived.Test.Qxb6612344aDoorChecked
import GoSem.Claim
import GoSem.ClaimJoined
import GoSem.ClaimMapViews
import Derived.JoinedTies
import Derived.KernelRfl
namespace Go.Proofs.Qxb6612344aDoor
/- THE CELL 'sum', in the pinned program and in every row, IS THE sha256 OF THE DUMP (.gsa) THAT Qxb6612344aDoorProg.lean LOADS. Nothing in Lean hashes anything: it is a label: what it is worth is what the hold of that sum in a sandbox is worth. -/
noncomputable def Tryd.pinned : Pinned := { name := "qxb6612344adoor", sum := "251eec879c1deb7dede5a701d74beaeed7fc3948ea92cf2029f03bf5cf02c069", checked := Tryd.checked }
namespace Rows
def none {H : Type} : Left H := { results := [], args := [] }

/- WHAT THE LISTED PACKAGE-LEVEL VARIABLES READ AS WHEN THE CALL BEGINS. Each datum BY PROGRAM (the guide's laid-datum.mjs) off the statement by which the dump's own 'gosem.cut.vars' lays the variable. In a bare row this is a premise. The card (Qxb6612344aDoorCards.lean) ties it to the program's text. -/
def laid_example_com_dunnage_dunnage_manifest_emptyLayer {H : Type} : DataW H := .slice [.lit (.int .u8 31), .lit (.int .u8 139), .lit (.int .u8 8), .lit (.int .u8 0), .lit (.int .u8 0), .lit (.int .u8 9), .lit (.int .u8 110), .lit (.int .u8 136), .lit (.int .u8 0), .lit (.int .u8 255), .lit (.int .u8 98), .lit (.int .u8 24), .lit (.int .u8 5), .lit (.int .u8 163), .lit (.int .u8 96), .lit (.int .u8 20), .lit (.int .u8 140), .lit (.int .u8 88), .lit (.int .u8 0), .lit (.int .u8 8), .lit (.int .u8 0), .lit (.int .u8 0), .lit (.int .u8 255), .lit (.int .u8 255), .lit (.int .u8 46), .lit (.int .u8 175), .lit (.int .u8 181), .lit (.int .u8 239), .lit (.int .u8 0), .lit (.int .u8 4), .lit (.int .u8 0), .lit (.int .u8 0)] []

/-- 'zzlaws_manifest_b1.FnEmptyLayerExactFreshBytes': WHATEVER THE INPUT: true; the input reads as it did. -/
def fnEmptyLayerExactFreshBytesSpec : ChangeSpec := { name := "fnEmptyLayerExactFreshBytes", vars := ["example.com/dunnage/dunnage/manifest.emptyLayer"], fn := fun _ => fun
  | [g1] => { results := [.lit (.bool true)], args := [], vars := [g1] }
  | _ => none }
def fnEmptyLayerExactFreshBytesRow : OpenClaim := { program := "qxb6612344adoor", sum := "251eec879c1deb7dede5a701d74beaeed7fc3948ea92cf2029f03bf5cf02c069", func := "example.com/dunnage/dunnage/zzlaws_manifest_b1.FnEmptyLayerExactFreshBytes", spec := "fnEmptyLayerExactFreshBytes", named := ["example.com/dunnage/dunnage/manifest.emptyLayer"], apart := false, laid := [("example.com/dunnage/dunnage/manifest.emptyLayer", laid_example_com_dunnage_dunnage_manifest_emptyLayer)] }
def FnEmptyLayerExactFreshBytesSaid : Prop := fnEmptyLayerExactFreshBytesRow.holds Tryd.pinned (OpenSpec.ofChange fnEmptyLayerExactFreshBytesSpec)

/-- ITS FALSE NEIGHBOUR: 'it returns false'. Refute it at one input. -/
def fnEmptyLayerExactFreshBytesWrong : ChangeSpec := { name := "fnEmptyLayerExactFreshBytes", vars := ["example.com/dunnage/dunnage/manifest.emptyLayer"], fn := fun _ => fun
  | [g1] => { results := [.lit (.bool false)], args := [], vars := [g1] }
  | _ => none }
def FnEmptyLayerExactFreshBytesWrongFalsely : Prop := fnEmptyLayerExactFreshBytesRow.holds Tryd.pinned (OpenSpec.ofChange fnEmptyLayerExactFreshBytesWrong)

/-- 'zzlaws_manifest_b1.FnEmptyLayerDigestIsDockerEmptyBlob': WHATEVER THE INPUT: true; the input reads as it did. -/
def fnEmptyLayerDigestIsDockerEmptyBlobSpec : ChangeSpec := { name := "fnEmptyLayerDigestIsDockerEmptyBlob", vars := ["example.com/dunnage/dunnage/manifest.emptyLayer"], fn := fun _ => fun
  | [g1] => { results := [.lit (.bool true)], args := [], vars := [g1] }
  | _ => none }
def fnEmptyLayerDigestIsDockerEmptyBlobRow : OpenClaim := { program := "qxb6612344adoor", sum := "251eec879c1deb7dede5a701d74beaeed7fc3948ea92cf2029f03bf5cf02c069", func := "example.com/dunnage/dunnage/zzlaws_manifest_b1.FnEmptyLayerDigestIsDockerEmptyBlob", spec := "fnEmptyLayerDigestIsDockerEmptyBlob", unfollowed := true, recurses := true, named := ["example.com/dunnage/dunnage/manifest.emptyLayer"], apart := false, laid := [("example.com/dunnage/dunnage/manifest.emptyLayer", laid_example_com_dunnage_dunnage_manifest_emptyLayer)] }
def FnEmptyLayerDigestIsDockerEmptyBlobSaid : Prop := fnEmptyLayerDigestIsDockerEmptyBlobRow.holds Tryd.pinned (OpenSpec.ofChange fnEmptyLayerDigestIsDockerEmptyBlobSpec)

/-- ITS FALSE NEIGHBOUR: 'it returns false'. Refute it at one input. -/
def fnEmptyLayerDigestIsDockerEmptyBlobWrong : ChangeSpec := { name := "fnEmptyLayerDigestIsDockerEmptyBlob", vars := ["example.com/dunnage/dunnage/manifest.emptyLayer"], fn := fun _ => fun
  | [g1] => { results := [.lit (.bool false)], args := [], vars := [g1] }
  | _ => none }
def FnEmptyLayerDigestIsDockerEmptyBlobWrongFalsely : Prop := fnEmptyLayerDigestIsDockerEmptyBlobRow.holds Tryd.pinned (OpenSpec.ofChange fnEmptyLayerDigestIsDockerEmptyBlobWrong)

end Rows
end Go.Proofs.Qxb6612344aDoor
