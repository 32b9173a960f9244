/-
  No cell of these rows narrows 'for every input' (looked for: loops, veiled, ifaces, maps, wideKeys, modest, calm, conditions, laid).
  DERIVED. THE GIVEN ROWS OF THIS SEAT. 4 by the template 'for every input the law returns true; each argument reads behind the call as it read before'; 0 by the template 'total and deterministic' (their statements: Qxb6617436aTotals.lean).
  GIVEN WITH THE SEED: the statements are not yours to turn. If you find one false, say at which input.
  Laid BY PROGRAM, IN A SANDBOX (cutbox-rows.mjs): the forced cells as the released guide's own fill.sh prints them over the translation dedf8b501105457e… (all of the seat's roots in one cut). By AI agents, Wed Nov 11 2026. No macro, syntax, notation, axiom, sorry.
-/
import Derived.Test.Qxb6617436aChecked
import GoSem.Claim
import GoSem.ClaimJoined
import GoSem.ClaimMapViews
import Derived.JoinedTies
import Derived.KernelRfl
namespace Go.Proofs.Qxb6617436a
/- THE CELL 'sum', in the pinned program and in every row, IS THE sha256 OF THE DUMP (.gsa) THAT Qxb6617436aProg.lean LOADS. Nothing in Lean hashes anything: it is a label: what it is worth is what the hold of that sum in a sandbox is worth. -/
noncomputable def Try.pinned : Pinned := { name := "qxb6617436a", sum := "dedf8b501105457e49fbed9ddf72ad999a6e944269ea98b5d8f199c292364116", checked := Try.checked }
namespace Rows
def none {H : Type} : Left H := { results := [], args := [] }

/-- 'zzlaws_internal_shell_b1.FnTrailingGroupMatchesStackModel': WHATEVER THE INPUT: true; the input reads as it did. -/
def fnTrailingGroupMatchesStackModelSpec : ChangeSpec := { name := "fnTrailingGroupMatchesStackModel", fn := fun _ => fun
  | [d] => { results := [.lit (.bool true)], args := [d] }
  | _ => none }
def fnTrailingGroupMatchesStackModelRow : OpenClaim := { program := "qxb6617436a", sum := "dedf8b501105457e49fbed9ddf72ad999a6e944269ea98b5d8f199c292364116", func := "example.com/ladle/ladle/zzlaws_internal_shell_b1.FnTrailingGroupMatchesStackModel", spec := "fnTrailingGroupMatchesStackModel", apart := false }
def FnTrailingGroupMatchesStackModelSaid : Prop := fnTrailingGroupMatchesStackModelRow.holds Try.pinned (OpenSpec.ofChange fnTrailingGroupMatchesStackModelSpec)

/-- ITS FALSE NEIGHBOUR: 'it returns false'. Refute it at one input. -/
def fnTrailingGroupMatchesStackModelWrong : ChangeSpec := { name := "fnTrailingGroupMatchesStackModel", fn := fun _ => fun
  | [d] => { results := [.lit (.bool false)], args := [d] }
  | _ => none }
def FnTrailingGroupMatchesStackModelWrongFalsely : Prop := fnTrailingGroupMatchesStackModelRow.holds Try.pinned (OpenSpec.ofChange fnTrailingGroupMatchesStackModelWrong)

/-- 'zzlaws_internal_shell_b1.FnTrailingGroupAfterClosedGroup': WHATEVER THE INPUT: true; the input reads as it did. -/
def fnTrailingGroupAfterClosedGroupSpec : ChangeSpec := { name := "fnTrailingGroupAfterClosedGroup", fn := fun _ => fun
  | [d1, d2, d3] => { results := [.lit (.bool true)], args := [d1, d2, d3] }
  | _ => none }
def fnTrailingGroupAfterClosedGroupRow : OpenClaim := { program := "qxb6617436a", sum := "dedf8b501105457e49fbed9ddf72ad999a6e944269ea98b5d8f199c292364116", func := "example.com/ladle/ladle/zzlaws_internal_shell_b1.FnTrailingGroupAfterClosedGroup", spec := "fnTrailingGroupAfterClosedGroup", apart := false }
def FnTrailingGroupAfterClosedGroupSaid : Prop := fnTrailingGroupAfterClosedGroupRow.holds Try.pinned (OpenSpec.ofChange fnTrailingGroupAfterClosedGroupSpec)

/-- ITS FALSE NEIGHBOUR: 'it returns false'. Refute it at one input. -/
def fnTrailingGroupAfterClosedGroupWrong : ChangeSpec := { name := "fnTrailingGroupAfterClosedGroup", fn := fun _ => fun
  | [d1, d2, d3] => { results := [.lit (.bool false)], args := [d1, d2, d3] }
  | _ => none }
def FnTrailingGroupAfterClosedGroupWrongFalsely : Prop := fnTrailingGroupAfterClosedGroupRow.holds Try.pinned (OpenSpec.ofChange fnTrailingGroupAfterClosedGroupWrong)

/-- 'zzlaws_internal_shell_b1.FnOctalEscapesMatchesDeletionModel': WHATEVER THE INPUT: true; the input reads as it did. -/
def fnOctalEscapesMatchesDeletionModelSpec : ChangeSpec := { name := "fnOctalEscapesMatchesDeletionModel", fn := fun _ => fun
  | [d] => { results := [.lit (.bool true)], args := [d] }
  | _ => none }
def fnOctalEscapesMatchesDeletionModelRow : OpenClaim := { program := "qxb6617436a", sum := "dedf8b501105457e49fbed9ddf72ad999a6e944269ea98b5d8f199c292364116", func := "example.com/ladle/ladle/zzlaws_internal_shell_b1.FnOctalEscapesMatchesDeletionModel", spec := "fnOctalEscapesMatchesDeletionModel", inPlace := ["internal/bytealg.IndexByteString", "internal/bytealg.IndexString", "internal/abi.NoEscape"], named := ["internal/bytealg.MaxLen"], apart := false }
def FnOctalEscapesMatchesDeletionModelSaid : Prop := fnOctalEscapesMatchesDeletionModelRow.holds Try.pinned (OpenSpec.ofChange fnOctalEscapesMatchesDeletionModelSpec)

/-- ITS FALSE NEIGHBOUR: 'it returns false'. Refute it at one input. -/
def fnOctalEscapesMatchesDeletionModelWrong : ChangeSpec := { name := "fnOctalEscapesMatchesDeletionModel", fn := fun _ => fun
  | [d] => { results := [.lit (.bool false)], args := [d] }
  | _ => none }
def FnOctalEscapesMatchesDeletionModelWrongFalsely : Prop := fnOctalEscapesMatchesDeletionModelRow.holds Try.pinned (OpenSpec.ofChange fnOctalEscapesMatchesDeletionModelWrong)

/-- 'zzlaws_internal_shell_b1.FnOctalEscapesDropsOnlyTheEscapedZero': WHATEVER THE INPUT: true; the input reads as it did. -/
def fnOctalEscapesDropsOnlyTheEscapedZeroSpec : ChangeSpec := { name := "fnOctalEscapesDropsOnlyTheEscapedZero", fn := fun _ => fun
  | [d1, d2, d3] => { results := [.lit (.bool true)], args := [d1, d2, d3] }
  | _ => none }
def fnOctalEscapesDropsOnlyTheEscapedZeroRow : OpenClaim := { program := "qxb6617436a", sum := "dedf8b501105457e49fbed9ddf72ad999a6e944269ea98b5d8f199c292364116", func := "example.com/ladle/ladle/zzlaws_internal_shell_b1.FnOctalEscapesDropsOnlyTheEscapedZero", spec := "fnOctalEscapesDropsOnlyTheEscapedZero", inPlace := ["internal/bytealg.IndexByteString", "internal/bytealg.IndexString", "internal/abi.NoEscape"], named := ["internal/bytealg.MaxLen"], apart := false }
def FnOctalEscapesDropsOnlyTheEscapedZeroSaid : Prop := fnOctalEscapesDropsOnlyTheEscapedZeroRow.holds Try.pinned (OpenSpec.ofChange fnOctalEscapesDropsOnlyTheEscapedZeroSpec)

/-- ITS FALSE NEIGHBOUR: 'it returns false'. Refute it at one input. -/
def fnOctalEscapesDropsOnlyTheEscapedZeroWrong : ChangeSpec := { name := "fnOctalEscapesDropsOnlyTheEscapedZero", fn := fun _ => fun
  | [d1, d2, d3] => { results := [.lit (.bool false)], args := [d1, d2, d3] }
  | _ => none }
def FnOctalEscapesDropsOnlyTheEscapedZeroWrongFalsely : Prop := fnOctalEscapesDropsOnlyTheEscapedZeroRow.holds Try.pinned (OpenSpec.ofChange fnOctalEscapesDropsOnlyTheEscapedZeroWrong)

end Rows
end Go.Proofs.Qxb6617436a
