/-
  No cell of these rows narrows 'for every input' (looked for: loops, veiled, ifaces, maps, wideKeys, modest, calm, conditions, laid).
  DERIVED. THE GIVEN ROWS OF THIS SEAT. 4 by the template 'for every input the law returns true; each argument reads behind the call as it read before'; 0 by the template 'total and deterministic' (their statements: Qxb6003683aTotals.lean).
  GIVEN WITH THE SEED: the statements are not yours to turn. If you find one false, say at which input.
  Laid BY PROGRAM, IN A SANDBOX (cutbox-rows.mjs): the forced cells as the released guide's own fill.sh prints them over the translation 2b83a96500d2dcdd… (all of the seat's roots in one cut). By AI agents, Wed Nov 11 2026. No macro, syntax, notation, axiom, sorry.
-/
import Derived.Test.Qxb6003683aChecked
import GoSem.Claim
import GoSem.ClaimJoined
import GoSem.ClaimMapViews
import Derived.JoinedTies
import Derived.KernelRfl
namespace Go.Proofs.Qxb6003683a
/- THE CELL 'sum', in the pinned program and in every row, IS THE sha256 OF THE DUMP (.gsa) THAT Qxb6003683aProg.lean LOADS. Nothing in Lean hashes anything: it is a label: what it is worth is what the hold of that sum in a sandbox is worth. -/
noncomputable def Try.pinned : Pinned := { name := "qxb6003683a", sum := "2b83a96500d2dcdd40bf6ad805decddcaa42339dd54a48d4bce18b655d96cfe7", checked := Try.checked }
namespace Rows
def none {H : Type} : Left H := { results := [], args := [] }

/-- 'zzlaws_graph_g2.FnFieldEndMonotoneIdempotent': WHATEVER THE INPUT: true; the input reads as it did. -/
def fnFieldEndMonotoneIdempotentSpec : ChangeSpec := { name := "fnFieldEndMonotoneIdempotent", fn := fun _ => fun
  | [d1, d2, d3] => { results := [.lit (.bool true)], args := [d1, d2, d3] }
  | _ => none }
def fnFieldEndMonotoneIdempotentRow : OpenClaim := { program := "qxb6003683a", sum := "2b83a96500d2dcdd40bf6ad805decddcaa42339dd54a48d4bce18b655d96cfe7", func := "example.com/churnweave/churnweave/zzlaws_graph_g2.FnFieldEndMonotoneIdempotent", spec := "fnFieldEndMonotoneIdempotent", apart := false }
def FnFieldEndMonotoneIdempotentSaid : Prop := fnFieldEndMonotoneIdempotentRow.holds Try.pinned (OpenSpec.ofChange fnFieldEndMonotoneIdempotentSpec)

/-- ITS FALSE NEIGHBOUR: 'it returns false'. Refute it at one input. -/
def fnFieldEndMonotoneIdempotentWrong : ChangeSpec := { name := "fnFieldEndMonotoneIdempotent", fn := fun _ => fun
  | [d1, d2, d3] => { results := [.lit (.bool false)], args := [d1, d2, d3] }
  | _ => none }
def FnFieldEndMonotoneIdempotentWrongFalsely : Prop := fnFieldEndMonotoneIdempotentRow.holds Try.pinned (OpenSpec.ofChange fnFieldEndMonotoneIdempotentWrong)

/-- 'zzlaws_pernode_g1.FnMapGetAgreesWithCellScan': WHATEVER THE INPUT: true; the input reads as it did. -/
def fnMapGetAgreesWithCellScanSpec : ChangeSpec := { name := "fnMapGetAgreesWithCellScan", fn := fun _ => fun
  | [d1, d2, d3, d4, d5] => { results := [.lit (.bool true)], args := [d1, d2, d3, d4, d5] }
  | _ => none }
def fnMapGetAgreesWithCellScanRow : OpenClaim := { program := "qxb6003683a", sum := "2b83a96500d2dcdd40bf6ad805decddcaa42339dd54a48d4bce18b655d96cfe7", func := "example.com/churnweave/churnweave/zzlaws_pernode_g1.FnMapGetAgreesWithCellScan", spec := "fnMapGetAgreesWithCellScan", apart := false }
def FnMapGetAgreesWithCellScanSaid : Prop := fnMapGetAgreesWithCellScanRow.holds Try.pinned (OpenSpec.ofChange fnMapGetAgreesWithCellScanSpec)

/-- ITS FALSE NEIGHBOUR: 'it returns false'. Refute it at one input. -/
def fnMapGetAgreesWithCellScanWrong : ChangeSpec := { name := "fnMapGetAgreesWithCellScan", fn := fun _ => fun
  | [d1, d2, d3, d4, d5] => { results := [.lit (.bool false)], args := [d1, d2, d3, d4, d5] }
  | _ => none }
def FnMapGetAgreesWithCellScanWrongFalsely : Prop := fnMapGetAgreesWithCellScanRow.holds Try.pinned (OpenSpec.ofChange fnMapGetAgreesWithCellScanWrong)

/-- 'zzlaws_pernode_g1.FnMapDeleteScriptMatchesSetModel': WHATEVER THE INPUT: true; the input reads as it did. -/
def fnMapDeleteScriptMatchesSetModelSpec : ChangeSpec := { name := "fnMapDeleteScriptMatchesSetModel", fn := fun _ => fun
  | [d1, d2, d3, d4, d5] => { results := [.lit (.bool true)], args := [d1, d2, d3, d4, d5] }
  | _ => none }
def fnMapDeleteScriptMatchesSetModelRow : OpenClaim := { program := "qxb6003683a", sum := "2b83a96500d2dcdd40bf6ad805decddcaa42339dd54a48d4bce18b655d96cfe7", func := "example.com/churnweave/churnweave/zzlaws_pernode_g1.FnMapDeleteScriptMatchesSetModel", spec := "fnMapDeleteScriptMatchesSetModel", apart := false }
def FnMapDeleteScriptMatchesSetModelSaid : Prop := fnMapDeleteScriptMatchesSetModelRow.holds Try.pinned (OpenSpec.ofChange fnMapDeleteScriptMatchesSetModelSpec)

/-- ITS FALSE NEIGHBOUR: 'it returns false'. Refute it at one input. -/
def fnMapDeleteScriptMatchesSetModelWrong : ChangeSpec := { name := "fnMapDeleteScriptMatchesSetModel", fn := fun _ => fun
  | [d1, d2, d3, d4, d5] => { results := [.lit (.bool false)], args := [d1, d2, d3, d4, d5] }
  | _ => none }
def FnMapDeleteScriptMatchesSetModelWrongFalsely : Prop := fnMapDeleteScriptMatchesSetModelRow.holds Try.pinned (OpenSpec.ofChange fnMapDeleteScriptMatchesSetModelWrong)

/-- 'zzlaws_pernode_g1.FnMapDeleteIsIdempotent': WHATEVER THE INPUT: true; the input reads as it did. -/
def fnMapDeleteIsIdempotentSpec : ChangeSpec := { name := "fnMapDeleteIsIdempotent", fn := fun _ => fun
  | [d1, d2, d3, d4, d5] => { results := [.lit (.bool true)], args := [d1, d2, d3, d4, d5] }
  | _ => none }
def fnMapDeleteIsIdempotentRow : OpenClaim := { program := "qxb6003683a", sum := "2b83a96500d2dcdd40bf6ad805decddcaa42339dd54a48d4bce18b655d96cfe7", func := "example.com/churnweave/churnweave/zzlaws_pernode_g1.FnMapDeleteIsIdempotent", spec := "fnMapDeleteIsIdempotent", apart := false }
def FnMapDeleteIsIdempotentSaid : Prop := fnMapDeleteIsIdempotentRow.holds Try.pinned (OpenSpec.ofChange fnMapDeleteIsIdempotentSpec)

/-- ITS FALSE NEIGHBOUR: 'it returns false'. Refute it at one input. -/
def fnMapDeleteIsIdempotentWrong : ChangeSpec := { name := "fnMapDeleteIsIdempotent", fn := fun _ => fun
  | [d1, d2, d3, d4, d5] => { results := [.lit (.bool false)], args := [d1, d2, d3, d4, d5] }
  | _ => none }
def FnMapDeleteIsIdempotentWrongFalsely : Prop := fnMapDeleteIsIdempotentRow.holds Try.pinned (OpenSpec.ofChange fnMapDeleteIsIdempotentWrong)

end Rows
end Go.Proofs.Qxb6003683a
