/-
  No cell of these rows narrows 'for every input' (looked for: loops, veiled, ifaces, maps, wideKeys, modest, calm, conditions, laid).
  DERIVED. THE GIVEN ROWS OF THIS SEAT. 4 by the template 'for every input the law returns true; each argument reads behind the call as it read before'; 0 by the template 'total and deterministic' (their statements: Qxb6618711aTotals.lean).
  GIVEN WITH THE SEED: the statements are not yours to turn. If you find one false, say at which input.
  Laid BY PROGRAM, IN A SANDBOX (cutbox-rows.mjs): the forced cells as the released guide's own fill.sh prints them over the translation 64f31574475b9877… (all of the seat's roots in one cut). By AI agents, Wed Nov 11 2026. No macro, syntax, notation, axiom, sorry.
-/
import Derived.Test.Qxb6618711aChecked
import GoSem.Claim
import GoSem.ClaimJoined
import GoSem.ClaimMapViews
import Derived.JoinedTies
import Derived.KernelRfl
namespace Go.Proofs.Qxb6618711a
/- THE CELL 'sum', in the pinned program and in every row, IS THE sha256 OF THE DUMP (.gsa) THAT Qxb6618711aProg.lean LOADS. Nothing in Lean hashes anything: it is a label: what it is worth is what the hold of that sum in a sandbox is worth. -/
noncomputable def Try.pinned : Pinned := { name := "qxb6618711a", sum := "64f31574475b98773a5bdb25c550faaa81d6b2d300f38a120975499b8e7b4b1e", checked := Try.checked }
namespace Rows
def none {H : Type} : Left H := { results := [], args := [] }

/-- 'zzlaws_internal_router_b1.FnEndWordKeywordAgreesWithFold': WHATEVER THE INPUT: true; the input reads as it did. -/
def fnEndWordKeywordAgreesWithFoldSpec : ChangeSpec := { name := "fnEndWordKeywordAgreesWithFold", fn := fun _ => fun
  | [d1, d2, d3, d4] => { results := [.lit (.bool true)], args := [d1, d2, d3, d4] }
  | _ => none }
def fnEndWordKeywordAgreesWithFoldRow : OpenClaim := { program := "qxb6618711a", sum := "64f31574475b98773a5bdb25c550faaa81d6b2d300f38a120975499b8e7b4b1e", func := "example.com/rehouse/rehouse/zzlaws_internal_router_b1.FnEndWordKeywordAgreesWithFold", spec := "fnEndWordKeywordAgreesWithFold", inPlace := ["(*internal/sync.Mutex).Lock", "internal/race.Disable", "sync/atomic.CompareAndSwapInt32", "internal/race.Enable", "internal/race.Acquire", "(*internal/sync.Mutex).lockSlow", "internal/sync.runtime_canSpin", "internal/sync.runtime_doSpin", "internal/sync.throw", "internal/sync.runtime_nanotime", "internal/sync.runtime_SemacquireMutex", "sync/atomic.AddInt32", "(*internal/sync.Mutex).Unlock", "internal/race.ReleaseMerge", "(*internal/sync.Mutex).unlockSlow", "internal/sync.fatal", "internal/sync.runtime_Semrelease", "internal/bytealg.IndexByte"], plainKeys := false, apart := false }
def FnEndWordKeywordAgreesWithFoldSaid : Prop := fnEndWordKeywordAgreesWithFoldRow.holds Try.pinned (OpenSpec.ofChange fnEndWordKeywordAgreesWithFoldSpec)

/-- ITS FALSE NEIGHBOUR: 'it returns false'. Refute it at one input. -/
def fnEndWordKeywordAgreesWithFoldWrong : ChangeSpec := { name := "fnEndWordKeywordAgreesWithFold", fn := fun _ => fun
  | [d1, d2, d3, d4] => { results := [.lit (.bool false)], args := [d1, d2, d3, d4] }
  | _ => none }
def FnEndWordKeywordAgreesWithFoldWrongFalsely : Prop := fnEndWordKeywordAgreesWithFoldRow.holds Try.pinned (OpenSpec.ofChange fnEndWordKeywordAgreesWithFoldWrong)

/-- 'zzlaws_internal_router_b1.FnEndWordSetThenSettingName': WHATEVER THE INPUT: true; the input reads as it did. -/
def fnEndWordSetThenSettingNameSpec : ChangeSpec := { name := "fnEndWordSetThenSettingName", fn := fun _ => fun
  | [d1, d2, d3] => { results := [.lit (.bool true)], args := [d1, d2, d3] }
  | _ => none }
def fnEndWordSetThenSettingNameRow : OpenClaim := { program := "qxb6618711a", sum := "64f31574475b98773a5bdb25c550faaa81d6b2d300f38a120975499b8e7b4b1e", func := "example.com/rehouse/rehouse/zzlaws_internal_router_b1.FnEndWordSetThenSettingName", spec := "fnEndWordSetThenSettingName", inPlace := ["(*internal/sync.Mutex).Lock", "internal/race.Disable", "sync/atomic.CompareAndSwapInt32", "internal/race.Enable", "internal/race.Acquire", "(*internal/sync.Mutex).lockSlow", "internal/sync.runtime_canSpin", "internal/sync.runtime_doSpin", "internal/sync.throw", "internal/sync.runtime_nanotime", "internal/sync.runtime_SemacquireMutex", "sync/atomic.AddInt32", "(*internal/sync.Mutex).Unlock", "internal/race.ReleaseMerge", "(*internal/sync.Mutex).unlockSlow", "internal/sync.fatal", "internal/sync.runtime_Semrelease", "internal/bytealg.IndexByte"], plainKeys := false, apart := false }
def FnEndWordSetThenSettingNameSaid : Prop := fnEndWordSetThenSettingNameRow.holds Try.pinned (OpenSpec.ofChange fnEndWordSetThenSettingNameSpec)

/-- ITS FALSE NEIGHBOUR: 'it returns false'. Refute it at one input. -/
def fnEndWordSetThenSettingNameWrong : ChangeSpec := { name := "fnEndWordSetThenSettingName", fn := fun _ => fun
  | [d1, d2, d3] => { results := [.lit (.bool false)], args := [d1, d2, d3] }
  | _ => none }
def FnEndWordSetThenSettingNameWrongFalsely : Prop := fnEndWordSetThenSettingNameRow.holds Try.pinned (OpenSpec.ofChange fnEndWordSetThenSettingNameWrong)

/-- 'zzlaws_internal_router_b1.FnPunctuatedClearsOnlyItsThreeFlags': WHATEVER THE INPUT: true; the input reads as it did. -/
def fnPunctuatedClearsOnlyItsThreeFlagsSpec : ChangeSpec := { name := "fnPunctuatedClearsOnlyItsThreeFlags", fn := fun _ => fun
  | [d1, d2, d3, d4, d5, d6, d7, d8, d9, d10, d11] => { results := [.lit (.bool true)], args := [d1, d2, d3, d4, d5, d6, d7, d8, d9, d10, d11] }
  | _ => none }
def fnPunctuatedClearsOnlyItsThreeFlagsRow : OpenClaim := { program := "qxb6618711a", sum := "64f31574475b98773a5bdb25c550faaa81d6b2d300f38a120975499b8e7b4b1e", func := "example.com/rehouse/rehouse/zzlaws_internal_router_b1.FnPunctuatedClearsOnlyItsThreeFlags", spec := "fnPunctuatedClearsOnlyItsThreeFlags", plainKeys := false, apart := false }
def FnPunctuatedClearsOnlyItsThreeFlagsSaid : Prop := fnPunctuatedClearsOnlyItsThreeFlagsRow.holds Try.pinned (OpenSpec.ofChange fnPunctuatedClearsOnlyItsThreeFlagsSpec)

/-- ITS FALSE NEIGHBOUR: 'it returns false'. Refute it at one input. -/
def fnPunctuatedClearsOnlyItsThreeFlagsWrong : ChangeSpec := { name := "fnPunctuatedClearsOnlyItsThreeFlags", fn := fun _ => fun
  | [d1, d2, d3, d4, d5, d6, d7, d8, d9, d10, d11] => { results := [.lit (.bool false)], args := [d1, d2, d3, d4, d5, d6, d7, d8, d9, d10, d11] }
  | _ => none }
def FnPunctuatedClearsOnlyItsThreeFlagsWrongFalsely : Prop := fnPunctuatedClearsOnlyItsThreeFlagsRow.holds Try.pinned (OpenSpec.ofChange fnPunctuatedClearsOnlyItsThreeFlagsWrong)

/-- 'zzlaws_internal_router_b1.FnConnsOfExactlyTheTenants': WHATEVER THE INPUT: true; the input reads as it did. -/
def fnConnsOfExactlyTheTenantsSpec : ChangeSpec := { name := "fnConnsOfExactlyTheTenants", fn := fun _ => fun
  | [d1, d2] => { results := [.lit (.bool true)], args := [d1, d2] }
  | _ => none }
def fnConnsOfExactlyTheTenantsRow : OpenClaim := { program := "qxb6618711a", sum := "64f31574475b98773a5bdb25c550faaa81d6b2d300f38a120975499b8e7b4b1e", func := "example.com/rehouse/rehouse/zzlaws_internal_router_b1.FnConnsOfExactlyTheTenants", spec := "fnConnsOfExactlyTheTenants", plainKeys := false, apart := false }
def FnConnsOfExactlyTheTenantsSaid : Prop := fnConnsOfExactlyTheTenantsRow.holds Try.pinned (OpenSpec.ofChange fnConnsOfExactlyTheTenantsSpec)

/-- ITS FALSE NEIGHBOUR: 'it returns false'. Refute it at one input. -/
def fnConnsOfExactlyTheTenantsWrong : ChangeSpec := { name := "fnConnsOfExactlyTheTenants", fn := fun _ => fun
  | [d1, d2] => { results := [.lit (.bool false)], args := [d1, d2] }
  | _ => none }
def FnConnsOfExactlyTheTenantsWrongFalsely : Prop := fnConnsOfExactlyTheTenantsRow.holds Try.pinned (OpenSpec.ofChange fnConnsOfExactlyTheTenantsWrong)

end Rows
end Go.Proofs.Qxb6618711a
