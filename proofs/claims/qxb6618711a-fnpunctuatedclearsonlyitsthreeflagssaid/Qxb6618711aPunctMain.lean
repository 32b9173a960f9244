/-
  THE WALK of FnPunctuatedClearsOnlyItsThreeFlags.
-/
import Derived.Test.Qxb6618711aPunct
namespace Go.Proofs.Qxb6618711a
open Go.RowKit

set_option maxRecDepth 100000 in
set_option maxHeartbeats 3200000 in
theorem punct_walk (a0 a1 a2 a3 a4 a5 : Bool) (a6 a7 a8 a9 a10 : Int) (w : World) :
    Calls Try.prog 5 #[.bool a0, .bool a1, .bool a2, .bool a3, .bool a4, .bool a5, .int .i64 a6, .int .i64 a7, .int .i64 a8, .int .i64 a9, .int .u8 a10] w fun e w' => e = .returned (.bool true) ∧ Below w.heap.size w w' := by
  have n3 : (a3 != a3) = false := by cases a3 <;> rfl
  have n4 : (a4 != a4) = false := by cases a4 <;> rfl
  have n5 : (a5 != a5) = false := by cases a5 <;> rfl
  have n6 : (a6 != a6) = false := by simp
  have n7 : (a7 != a7) = false := by simp
  have n8 : (a8 != a8) = false := by simp
  have n9 : (a9 != a9) = false := by simp
  have n10 : (a10 != a10) = false := by simp
  go_enter Try.func5, Try.ntmps5
  go_wp2_with fail
  refine (new_any w).mono ?_
  rintro e w1 ⟨rfl, hs1, hb1⟩
  obtain ⟨B, hB⟩ : ∃ B, B = w.heap.size := ⟨_, rfl⟩
  rw [← hB] at hs1 hb1
  rw [← hB]
  have HB := hide hB
  have HS1 := hide hs1
  have HB1 := hide hb1
  clear hB hs1 hb1
  go_wp2_with fail
  refine (set_any _ _ _ _ _ _ _ _ _ _ _ _ _ a0 a1 a2 a3 a4 a5 a6 a7 a8 a9 a10 HS1.out).mono ?_
  rintro e w2 ⟨rfl, hs2, hb2⟩
  have HS2 := hide hs2
  have HB2 := hide (HB1.out.trans hb2)
  clear hs2 hb2 HS1 HB1
  go_wp2_with fail
  refine (punct_any _ _ _ _ _ _ _ _ _ _ _ _ _ HS2.out).mono ?_
  rintro e w3 ⟨rfl, hs3, hb3⟩
  have HS3 := hide hs3
  have HB3 := hide (HB2.out.trans hb3)
  clear hs3 hb3 HS2 HB2
  go_wp2_with fail
  refine (lex_any _ _ _ _ _ _ _ _ _ _ _ _ _ HS3.out).mono ?_
  rintro e w4 ⟨rfl, nq4, hw4⟩
  have HW4 := hide hw4
  have HS4 : Hid (St w4 B false false false a3 a4 a5 a6 a7 a8 a9 a10) := by unfold Hid; rw [hw4]; exact HS3.out.drewN _
  clear hw4
  go_wp2_with fail
  refine (word_any _ _ _ _ _ _ _ _ _ _ _ _ _ HS4.out).mono ?_
  rintro e w5 ⟨rfl, nq5, hw5⟩
  have HW5 := hide hw5
  have HS5 : Hid (St w5 B false false false a3 a4 a5 a6 a7 a8 a9 a10) := by unfold Hid; rw [hw5]; exact HS4.out.drewN _
  have HB5 : Hid (Below B w w5) := by unfold Hid; rw [hw5, HW4.out]; exact below_drewN (below_drewN HB3.out _) _
  clear hw5 HS4 HW4 HS3 HB3
  go_wp2_with fail
  refine (punct_any _ _ _ _ _ _ _ _ _ _ _ _ _ HS5.out).mono ?_
  rintro e w6 ⟨rfl, hs6, hb6⟩
  have HS6 := hide hs6
  have HB6 := hide (HB5.out.trans hb6)
  clear hs6 hb6 HS5 HB5 HW5
  go_wp2_with fail
  refine (lex_any _ _ _ _ _ _ _ _ _ _ _ _ _ HS6.out).mono ?_
  rintro e w7 ⟨rfl, nq7, hw7⟩
  have HB7 : Hid (Below B w w7) := by unfold Hid; rw [hw7]; exact below_drewN HB6.out _
  clear hw7 HB6 HS6
  go_wp2
  go_ret
  refine ⟨rfl, ?_⟩
  rw [← HB.out]
  exact HB7.out
end Go.Proofs.Qxb6618711a
