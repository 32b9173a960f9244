/-
  No cell of these rows narrows 'for every input' (looked for: loops, veiled, ifaces, maps, wideKeys, modest, calm, conditions, laid).
  DERIVED. THE GIVEN ROWS OF THIS SEAT. 2 by the template 'for every input the law returns true; each argument reads behind the call as it read before'; 0 by the template 'total and deterministic' (their statements: Qxb6618073aTotals.lean).
  GIVEN WITH THE SEED: the statements are not yours to turn. If you find one false, say at which input.
  Laid BY PROGRAM, IN A SANDBOX (cutbox-rows.mjs): the forced cells as the released guide's own fill.sh prints them over the translation b08cb70e1babc7bd… (all of the seat's roots in one cut). By AI agents, Wed Nov 11 2026. No macro, syntax, notation, axiom, sorry.
-/
import Derived.Test.Qxb6618073aChecked
import GoSem.Claim
import GoSem.ClaimJoined
import GoSem.ClaimMapViews
import Derived.JoinedTies
import Derived.KernelRfl
namespace Go.Proofs.Qxb6618073a
/- THE CELL 'sum', in the pinned program and in every row, IS THE sha256 OF THE DUMP (.gsa) THAT Qxb6618073aProg.lean LOADS. Nothing in Lean hashes anything: it is a label: what it is worth is what the hold of that sum in a sandbox is worth. -/
noncomputable def Try.pinned : Pinned := { name := "qxb6618073a", sum := "b08cb70e1babc7bd2184a7f01af2be014ea381ea66562017ee343f575ecf619a", checked := Try.checked }
namespace Rows
def none {H : Type} : Left H := { results := [], args := [] }

/-- 'zzlaws_internal_httpdoor_b1.FnAppendSegmentSplitsAndDecodes': WHATEVER THE INPUT: true; the input reads as it did. -/
def fnAppendSegmentSplitsAndDecodesSpec : ChangeSpec := { name := "fnAppendSegmentSplitsAndDecodes", fn := fun _ => fun
  | [d1, d2, d3] => { results := [.lit (.bool true)], args := [d1, d2, d3] }
  | _ => none }
def fnAppendSegmentSplitsAndDecodesRow : OpenClaim := { program := "qxb6618073a", sum := "b08cb70e1babc7bd2184a7f01af2be014ea381ea66562017ee343f575ecf619a", func := "example.com/circlet/circlet/zzlaws_internal_httpdoor_b1.FnAppendSegmentSplitsAndDecodes", spec := "fnAppendSegmentSplitsAndDecodes", apart := false }
def FnAppendSegmentSplitsAndDecodesSaid : Prop := fnAppendSegmentSplitsAndDecodesRow.holds Try.pinned (OpenSpec.ofChange fnAppendSegmentSplitsAndDecodesSpec)

/-- ITS FALSE NEIGHBOUR: 'it returns false'. Refute it at one input. -/
def fnAppendSegmentSplitsAndDecodesWrong : ChangeSpec := { name := "fnAppendSegmentSplitsAndDecodes", fn := fun _ => fun
  | [d1, d2, d3] => { results := [.lit (.bool false)], args := [d1, d2, d3] }
  | _ => none }
def FnAppendSegmentSplitsAndDecodesWrongFalsely : Prop := fnAppendSegmentSplitsAndDecodesRow.holds Try.pinned (OpenSpec.ofChange fnAppendSegmentSplitsAndDecodesWrong)

/-- 'zzlaws_internal_httpdoor_b1.FnAppendSegmentInjectiveAndSlashFree': WHATEVER THE INPUT: true; the input reads as it did. -/
def fnAppendSegmentInjectiveAndSlashFreeSpec : ChangeSpec := { name := "fnAppendSegmentInjectiveAndSlashFree", fn := fun _ => fun
  | [d1, d2] => { results := [.lit (.bool true)], args := [d1, d2] }
  | _ => none }
def fnAppendSegmentInjectiveAndSlashFreeRow : OpenClaim := { program := "qxb6618073a", sum := "b08cb70e1babc7bd2184a7f01af2be014ea381ea66562017ee343f575ecf619a", func := "example.com/circlet/circlet/zzlaws_internal_httpdoor_b1.FnAppendSegmentInjectiveAndSlashFree", spec := "fnAppendSegmentInjectiveAndSlashFree", apart := false }
def FnAppendSegmentInjectiveAndSlashFreeSaid : Prop := fnAppendSegmentInjectiveAndSlashFreeRow.holds Try.pinned (OpenSpec.ofChange fnAppendSegmentInjectiveAndSlashFreeSpec)

/-- ITS FALSE NEIGHBOUR: 'it returns false'. Refute it at one input. -/
def fnAppendSegmentInjectiveAndSlashFreeWrong : ChangeSpec := { name := "fnAppendSegmentInjectiveAndSlashFree", fn := fun _ => fun
  | [d1, d2] => { results := [.lit (.bool false)], args := [d1, d2] }
  | _ => none }
def FnAppendSegmentInjectiveAndSlashFreeWrongFalsely : Prop := fnAppendSegmentInjectiveAndSlashFreeRow.holds Try.pinned (OpenSpec.ofChange fnAppendSegmentInjectiveAndSlashFreeWrong)

end Rows
end Go.Proofs.Qxb6618073a
