/-
  THE PROOF OF 'Rows.FnConnsOfExactlyTheTenantsSaid': the frame, by hand (the seat gives no shell for a slice of strings); the walk lies in Qxb6618711aConnMain.
-/
import Derived.Test.Qxb6618711aRows
import Derived.Test.Qxb6618711aConnMain
import Derived.WalkKit
import Derived.ProofKit
import Derived.OpenShut
import Derived.ShutString
import Derived.ChangeOld
import Derived.Below
import Derived.SliceStrings
namespace Go.Proofs.Qxb6618711a.fnConnsOfExactlyTheTenants
open Go.ChangeShapes Go.WideShapes Go.ChangeAt Go.RowKit
open Go.ChangeMaps (open_string shut_string)
set_option linter.unusedVariables false

theorem own : ownKnob Try.prog.godebug = none := by kernel_rfl
theorem laidOut : laidOutB Try.prog = true := by kernel_rfl

theorem addr_of_cell {w : World} {x : Addr} {v : Value} (h : w.cell? x = some v) : ∃ b o, x = ⟨b, o, none⟩ ∧ b < w.heap.size := by
  obtain ⟨b, o, sp⟩ := x
  unfold World.cell? at h
  split at h
  · rename_i c e f hb
    cases sp with
    | none => exact ⟨b, o, rfl, ltH hb⟩
    | some _ => simp at h
  · simp at h

/-- A slice of strings that came in, as it is read. -/
theorem rs_of {w : World} {x : Addr} {len : Nat} {ss : List ByteArray} (hl : len ≤ ss.length) (hc : ∀ i, i < ss.length → w.cell? (x.add i) = some (.string (ss.getD i ByteArray.empty))) (hm : ∀ s ∈ ss, s.size ≤ maxLen) :
    (ss.take len).length = len ∧ Rs w.heap.size w (some x) (ss.take len) := by
  have hlen : (ss.take len).length = len := by simp; omega
  refine ⟨hlen, fun k hk => ?_⟩
  have e0 : x.add 0 = x := by obtain ⟨b, o, sp⟩ := x; cases sp <;> simp [Addr.add]
  have hc0 := hc 0 (by omega)
  rw [e0] at hc0
  obtain ⟨b, o, rfl, hb⟩ := addr_of_cell hc0
  have hks : k < ss.length := by omega
  refine ⟨b, o, rfl, hb, ?_, ?_⟩
  · have := hc k hks
    rw [Addr.add_lit] at this
    rw [this]
    simp [List.getD, hks]
  · have := hm ss[k] (List.getElem_mem hks)
    simp only [List.getElem_take]
    unfold maxLen at this
    omega

set_option maxRecDepth 100000 in
theorem lifted (os : Os) (started : os.Started) (H : Type) (enc : TypeId × Value → H) :
    ReturnsInHanded {} Try.checked os 6 .any (Rows.fnConnsOfExactlyTheTenantsSpec.pre6 enc Try.prog Try.f6 Rows.fnConnsOfExactlyTheTenantsRow.domain false) (Rows.fnConnsOfExactlyTheTenantsSpec.post enc Try.prog Try.f6 false true false false) := by
  refine returnsInHanded_of_change (C := Try.checked) own started (by kernel_rfl) Try.func6
    (ChangeSpec.witness6 (enc := enc) (C := Try.checked) false ⟨#[], #[.slice none 0 0, .string ByteArray.empty], []⟩ 8 (by kernel_rfl) (by kernel_rfl) (by kernel_rfl) (by kernel_rfl)) ?_
  intro W base args ds gs before hval0 hW hcnd _
  have hval : ∀ (j : Nat) t v, Try.f6.params[j]? = some t → args[j]? = some v → Value.okWide Try.prog W .any base t v := hval0
  have hW' := hW
  obtain ⟨p, q, hA0, hV, rfl, hfz, hnd⟩ := hW
  have hA : DataW.TrodAll enc Try.prog W 0 (fun _ => true) true Try.f6.params.toList args.toList ds p := hA0
  rw [Try.params6] at hA hval
  obtain ⟨v0, vs0, d0, ds0, p0, q0, hargs, rfl, rfl, h0, r0⟩ := trodAll_cons hA
  obtain ⟨v1, vs1, d1, ds1, p1, q1, rfl, rfl, rfl, h1, r1⟩ := trodAll_cons r0
  obtain ⟨rfl, rfl, rfl⟩ := trodAll_nil r1
  obtain rfl : args = #[v0, v1] := by cases args; simp_all
  obtain ⟨rfl, rfl⟩ := trodVars_none hV
  obtain ⟨a0, len0, cap0, rfl⟩ := okWide_slice Try.underlying39 (hval 0 39 v0 rfl rfl)
  have k0 := h0
  have lt0 : ∀ x ∈ p0, x.block < W.heap.size := by obtain ⟨m, hm⟩ := k0; exact DataW.trod_lt m _ _ _ hm
  obtain ⟨T, hT, hTl, hR⟩ : ∃ T : List ByteArray, T.length = len0 ∧ len0 ≤ 9223372036854775807 ∧ Rs W.heap.size W a0 T := by
    obtain ⟨fuel, hf⟩ := h0
    rcases open_strings Try.underlying39 Try.underlying9 (by kernel_rfl) hf with ⟨hcs, _⟩ | ⟨x, l, c, ss, hcs, _, hl, hm, hss, _, hcell, hsz⟩
    · simp [Value.cells] at hcs
      obtain ⟨rfl, rfl, rfl⟩ := hcs
      exact ⟨[], rfl, Nat.zero_le _, fun k hk => by cases hk⟩
    · simp [Value.cells] at hcs
      obtain ⟨rfl, rfl, rfl⟩ := hcs
      have hss' : ss.length = cap0 := by simpa using hss
      obtain ⟨h2, h3⟩ := rs_of (w := W) (x := x) (len := len0) (by omega) hcell hsz
      exact ⟨_, h2, by unfold maxLen at hm; omega, h3⟩
  obtain ⟨s, rfl, rfl, rfl, hs⟩ := open_string Try.underlying9 (hval 1 9 v1 rfl rfl) h1
  clear hA0 hval0
  subst hT
  have hs' : s.size ≤ 9223372036854775807 := by unfold maxLen at hs; omega
  refine (conn_walk a0 cap0 T s W hTl hs' hR).mono fun e W' ⟨he, bel⟩ => ?_
  subst he
  exact ⟨_, rfl, _, _, _, [], _, [], hW', trodAll_mk1 (shut_bool Try.underlying4 _), (trodAll_cons_mk (Below.trod laidOut (by kernel_rfl) (of_decide_eq_true (by kernel_rfl)) k0 bel lt0) (trodAll_cons_mk (shut_string Try.underlying9 hs) trodAll_mk0)), rfl, bel.frame _, fun h => by cases h⟩

theorem over : Rows.fnConnsOfExactlyTheTenantsRow.holds Try.pinned (OpenSpec.ofChange Rows.fnConnsOfExactlyTheTenantsSpec) :=
  OpenClaim.holds_of_wide 6 Try.f6 rfl rfl rfl rfl rfl rfl rfl ⟨rfl, rfl, rfl, rfl, rfl⟩ rfl rfl rfl rfl rfl (by kernel_rfl) Try.func6 (by kernel_rfl)
    (of_decide_eq_true (by kernel_rfl)) (by unfold Func.isWrapper; first | (rw [if_pos (by decide +kernel)]; kernel_rfl) | (rw [if_neg (by decide +kernel)]; exact ⟨rfl, rfl⟩))
    (fun os started H enc _ => lifted os started H enc)

/-- ████ THE STATEMENT ████ -/
theorem proved : Rows.FnConnsOfExactlyTheTenantsSaid := over
end Go.Proofs.Qxb6618711a.fnConnsOfExactlyTheTenants
