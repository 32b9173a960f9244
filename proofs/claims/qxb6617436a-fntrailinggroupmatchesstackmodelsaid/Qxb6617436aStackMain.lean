/-
  THE WALK of FnTrailingGroupMatchesStackModel.
-/
import Derived.Test.Qxb6617436aStack
namespace Go.Proofs.Qxb6617436a
open Go.RowKit

/-- The two readers agree on the whole text. -/
theorem whole (s : ByteArray) : Pl.tgo s.data.toList false 0 (-1) 0 = Pl.smod (Pl.prs s.data.toList false 0) s.size [] (-1) := by
  have := Pl.agree s.data.toList false 0 (-1) 0 [] (-1) rfl (by intro q h; simp at h)
  rw [Nat.zero_add, len_list] at this
  exact this

/-- THE WALK: whatever the input. -/
theorem stack_walk (s : ByteArray) (w : World) (hs : s.size ≤ maxLen) :
    Calls Try.prog 3 #[.string s] w fun e w' => e = .returned (.bool true) ∧ Below w.heap.size w w' := by
  by_cases h2 : s.size ≤ 1048576
  · have h1 : ¬ (1048576 : Int) < (s.size : Int) := by omega
    go_enter Try.func3, Try.ntmps3
    go_wp2_with fail
    refine (bytes1_any _ _ hs).mono ?_
    rintro e w' ⟨rfl, rfl⟩
    rw [show decide (s.size ≤ 1048576) = true by simp [h2]]
    go_wp2_with fail
    refine (zzTrail_any _ _ _ (by omega) (hide (whole s))).mono ?_
    rintro e w' ⟨rfl, rfl⟩
    go_wp2_with fail
    refine (stack_any s _ h2).mono ?_
    rintro e w1 ⟨rfl, hb⟩
    generalize Pl.smod (Pl.prs s.data.toList false 0) s.size [] (-1) = r
    have HB := hide hb
    clear hb
    go_wp2
    go_ret
    exact ⟨rfl, HB.out⟩
  · go_enter Try.func3, Try.ntmps3
    go_wp2_with fail
    refine (bytes1_any _ _ hs).mono ?_
    rintro e w' ⟨rfl, rfl⟩
    rw [show decide (s.size ≤ 1048576) = false by simp [h2]]
    go_wp2
    go_ret
    exact ⟨rfl, Below.refl _ _⟩
end Go.Proofs.Qxb6617436a
