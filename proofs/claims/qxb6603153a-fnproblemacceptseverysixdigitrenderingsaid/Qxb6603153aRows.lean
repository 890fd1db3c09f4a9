/-
  No cell of these rows narrows 'for every input' (looked for: loops, veiled, ifaces, maps, wideKeys, modest, calm, conditions, laid).
  DERIVED. THE GIVEN ROWS OF THIS SEAT. 2 by the template 'for every input the law returns true; each argument reads behind the call as it read before'; 0 by the template 'total and deterministic' (their statements: Qxb6603153aTotals.lean).
  GIVEN WITH THE SEED: the statements are not yours to turn. If you find one false, say at which input.
  Laid BY PROGRAM, IN A SANDBOX (cutbox-rows.mjs): the forced cells as the released guide's own fill.sh prints them over the translation b9b35457f3a693b0… (all of the seat's roots in one cut). By AI agents, Wed Nov 11 2026. No macro, syntax, notation, axiom, sorry.
-/
import Derived.Test.Qxb6603153aChecked
import GoSem.Claim
import GoSem.ClaimJoined
import GoSem.ClaimMapViews
import Derived.JoinedTies
import Derived.KernelRfl
namespace Go.Proofs.Qxb6603153a
/- THE CELL 'sum', in the pinned program and in every row, IS THE sha256 OF THE DUMP (.gsa) THAT Qxb6603153aProg.lean LOADS. Nothing in Lean hashes anything: it is a label: what it is worth is what the hold of that sum in a sandbox is worth. -/
noncomputable def Try.pinned : Pinned := { name := "qxb6603153a", sum := "b9b35457f3a693b05cc5bb19b15f8e0aec746895cd84224dc504a4173fbff93b", checked := Try.checked }
namespace Rows
def none {H : Type} : Left H := { results := [], args := [] }

/-- 'zzlaws_pkg_codes_b1.FnProblemExactlyRefusesAllButSixASCIIDigits': WHATEVER THE INPUT: true; the input reads as it did. -/
def fnProblemExactlyRefusesAllButSixASCIIDigitsSpec : ChangeSpec := { name := "fnProblemExactlyRefusesAllButSixASCIIDigits", fn := fun _ => fun
  | [d] => { results := [.lit (.bool true)], args := [d] }
  | _ => none }
def fnProblemExactlyRefusesAllButSixASCIIDigitsRow : OpenClaim := { program := "qxb6603153a", sum := "b9b35457f3a693b05cc5bb19b15f8e0aec746895cd84224dc504a4173fbff93b", func := "example.com/eurycleia/eurycleia/zzlaws_pkg_codes_b1.FnProblemExactlyRefusesAllButSixASCIIDigits", spec := "fnProblemExactlyRefusesAllButSixASCIIDigits", unfollowed := true, recurses := true, apart := false }
def FnProblemExactlyRefusesAllButSixASCIIDigitsSaid : Prop := fnProblemExactlyRefusesAllButSixASCIIDigitsRow.holds Try.pinned (OpenSpec.ofChange fnProblemExactlyRefusesAllButSixASCIIDigitsSpec)

/-- ITS FALSE NEIGHBOUR: 'it returns false'. Refute it at one input. -/
def fnProblemExactlyRefusesAllButSixASCIIDigitsWrong : ChangeSpec := { name := "fnProblemExactlyRefusesAllButSixASCIIDigits", fn := fun _ => fun
  | [d] => { results := [.lit (.bool false)], args := [d] }
  | _ => none }
def FnProblemExactlyRefusesAllButSixASCIIDigitsWrongFalsely : Prop := fnProblemExactlyRefusesAllButSixASCIIDigitsRow.holds Try.pinned (OpenSpec.ofChange fnProblemExactlyRefusesAllButSixASCIIDigitsWrong)

/-- 'zzlaws_pkg_codes_b1.FnProblemAcceptsEverySixDigitRendering': WHATEVER THE INPUT: true; the input reads as it did. -/
def fnProblemAcceptsEverySixDigitRenderingSpec : ChangeSpec := { name := "fnProblemAcceptsEverySixDigitRendering", fn := fun _ => fun
  | [d] => { results := [.lit (.bool true)], args := [d] }
  | _ => none }
def fnProblemAcceptsEverySixDigitRenderingRow : OpenClaim := { program := "qxb6603153a", sum := "b9b35457f3a693b05cc5bb19b15f8e0aec746895cd84224dc504a4173fbff93b", func := "example.com/eurycleia/eurycleia/zzlaws_pkg_codes_b1.FnProblemAcceptsEverySixDigitRendering", spec := "fnProblemAcceptsEverySixDigitRendering", unfollowed := true, recurses := true, apart := false }
def FnProblemAcceptsEverySixDigitRenderingSaid : Prop := fnProblemAcceptsEverySixDigitRenderingRow.holds Try.pinned (OpenSpec.ofChange fnProblemAcceptsEverySixDigitRenderingSpec)

/-- ITS FALSE NEIGHBOUR: 'it returns false'. Refute it at one input. -/
def fnProblemAcceptsEverySixDigitRenderingWrong : ChangeSpec := { name := "fnProblemAcceptsEverySixDigitRendering", fn := fun _ => fun
  | [d] => { results := [.lit (.bool false)], args := [d] }
  | _ => none }
def FnProblemAcceptsEverySixDigitRenderingWrongFalsely : Prop := fnProblemAcceptsEverySixDigitRenderingRow.holds Try.pinned (OpenSpec.ofChange fnProblemAcceptsEverySixDigitRenderingWrong)

end Rows
end Go.Proofs.Qxb6603153a
