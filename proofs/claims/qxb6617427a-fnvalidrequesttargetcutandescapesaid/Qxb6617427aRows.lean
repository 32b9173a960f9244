/-
  No cell of these rows narrows 'for every input' (looked for: loops, veiled, ifaces, maps, wideKeys, modest, calm, conditions, laid).
  DERIVED. THE GIVEN ROWS OF THIS SEAT. 2 by the template 'for every input the law returns true; each argument reads behind the call as it read before'; 0 by the template 'total and deterministic' (their statements: Qxb6617427aTotals.lean).
  GIVEN WITH THE SEED: the statements are not yours to turn. If you find one false, say at which input.
  Laid BY PROGRAM, IN A SANDBOX (cutbox-rows.mjs): the forced cells as the released guide's own fill.sh prints them over the translation 4c13a54c466080d1… (all of the seat's roots in one cut). By AI agents, Wed Nov 11 2026. No macro, syntax, notation, axiom, sorry.
-/
import Derived.Test.Qxb6617427aChecked
import GoSem.Claim
import GoSem.ClaimJoined
import GoSem.ClaimMapViews
import Derived.JoinedTies
import Derived.KernelRfl
namespace Go.Proofs.Qxb6617427a
/- THE CELL 'sum', in the pinned program and in every row, IS THE sha256 OF THE DUMP (.gsa) THAT Qxb6617427aProg.lean LOADS. Nothing in Lean hashes anything: it is a label: what it is worth is what the hold of that sum in a sandbox is worth. -/
noncomputable def Try.pinned : Pinned := { name := "qxb6617427a", sum := "4c13a54c466080d185541ad070a0be84af47bd516da1bf1f0ae8d0444ec3542d", checked := Try.checked }
namespace Rows
def none {H : Type} : Left H := { results := [], args := [] }

/-- 'zzlaws_root_b1.FnIsHexLengthCutAndRendering': WHATEVER THE INPUT: true; the input reads as it did. -/
def fnIsHexLengthCutAndRenderingSpec : ChangeSpec := { name := "fnIsHexLengthCutAndRendering", fn := fun _ => fun
  | [d1, d2, d3] => { results := [.lit (.bool true)], args := [d1, d2, d3] }
  | _ => none }
def fnIsHexLengthCutAndRenderingRow : OpenClaim := { program := "qxb6617427a", sum := "4c13a54c466080d185541ad070a0be84af47bd516da1bf1f0ae8d0444ec3542d", func := "example.com/tyr/tyr/zzlaws_root_b1.FnIsHexLengthCutAndRendering", spec := "fnIsHexLengthCutAndRendering", apart := false }
def FnIsHexLengthCutAndRenderingSaid : Prop := fnIsHexLengthCutAndRenderingRow.holds Try.pinned (OpenSpec.ofChange fnIsHexLengthCutAndRenderingSpec)

/-- ITS FALSE NEIGHBOUR: 'it returns false'. Refute it at one input. -/
def fnIsHexLengthCutAndRenderingWrong : ChangeSpec := { name := "fnIsHexLengthCutAndRendering", fn := fun _ => fun
  | [d1, d2, d3] => { results := [.lit (.bool false)], args := [d1, d2, d3] }
  | _ => none }
def FnIsHexLengthCutAndRenderingWrongFalsely : Prop := fnIsHexLengthCutAndRenderingRow.holds Try.pinned (OpenSpec.ofChange fnIsHexLengthCutAndRenderingWrong)

/-- 'zzlaws_root_b1.FnValidRequestTargetCutAndEscape': WHATEVER THE INPUT: true; the input reads as it did. -/
def fnValidRequestTargetCutAndEscapeSpec : ChangeSpec := { name := "fnValidRequestTargetCutAndEscape", fn := fun _ => fun
  | [d1, d2] => { results := [.lit (.bool true)], args := [d1, d2] }
  | _ => none }
def fnValidRequestTargetCutAndEscapeRow : OpenClaim := { program := "qxb6617427a", sum := "4c13a54c466080d185541ad070a0be84af47bd516da1bf1f0ae8d0444ec3542d", func := "example.com/tyr/tyr/zzlaws_root_b1.FnValidRequestTargetCutAndEscape", spec := "fnValidRequestTargetCutAndEscape", apart := false }
def FnValidRequestTargetCutAndEscapeSaid : Prop := fnValidRequestTargetCutAndEscapeRow.holds Try.pinned (OpenSpec.ofChange fnValidRequestTargetCutAndEscapeSpec)

/-- ITS FALSE NEIGHBOUR: 'it returns false'. Refute it at one input. -/
def fnValidRequestTargetCutAndEscapeWrong : ChangeSpec := { name := "fnValidRequestTargetCutAndEscape", fn := fun _ => fun
  | [d1, d2] => { results := [.lit (.bool false)], args := [d1, d2] }
  | _ => none }
def FnValidRequestTargetCutAndEscapeWrongFalsely : Prop := fnValidRequestTargetCutAndEscapeRow.holds Try.pinned (OpenSpec.ofChange fnValidRequestTargetCutAndEscapeWrong)

end Rows
end Go.Proofs.Qxb6617427a
