/-
  THE CONTRACTS of HasPrefix (at one slash), validRequestTarget, ZZvalidRequestTarget, zzIsAlnum, zzBytes.
-/
import Derived.Test.Qxb6617427aHexOf
import Derived.Test.Qxb6617427aPlainB
namespace Go.Proofs.Qxb6617427a
open Go.RowKit

theorem bytesB_any (s : ByteArray) (k : Int) (w : World) (hs : s.size ≤ maxLen) :
    Calls Try.prog 9 #[.string s, .int .i64 k] w fun e w' => e = .returned (.bool (decide (s.size ≤ 1048576))) ∧ w' = w := by
  unfold maxLen at hs
  go_enter Try.func9, Try.ntmps9
  go_wp2
  all_goals
    go_ret
    exact ⟨ret_bool (by simp; omega), rfl⟩

set_option maxRecDepth 100000 in
theorem aln_any (x : Int) (w : World) (h0 : 0 ≤ x) (h1 : x ≤ 255) :
    Calls Try.prog 15 #[.int .u8 x] w fun e w' => e = .returned (.bool (Pl.aln x)) ∧ w' = w := by
  go_enter Try.func15, Try.ntmps15
  go_wp2
  all_goals
    go_ret
    exact ⟨ret_bool (by unfold Pl.aln; rw [Bool.eq_iff_iff]; simp; omega), rfl⟩

theorem list_eq (s : ByteArray) : s.toList = s.data.toList := ByteArray.toList_eq s

theorem pre_one (s : ByteArray) (h : 1 ≤ s.size) : ((s.extract 0 1).toList == [47]) = (s.data.toList.head? == some 47) := by
  rw [list_eq, ByteArray.data_extract]
  simp
  have hl : 1 ≤ s.data.toList.length := by simpa using h
  cases hs : s.data.toList with
  | nil => rw [hs] at hl; simp at hl
  | cons a l => simp [List.take]

set_option maxRecDepth 100000 in
theorem hasPrefix_any (s : ByteArray) (w : World) (hs : s.size ≤ maxLen) :
    Calls Try.prog 17 #[.string s, .string ⟨#[47]⟩] w fun e w' => e = .returned (.bool (s.data.toList.head? == some 47)) ∧ w' = w := by
  unfold maxLen at hs
  by_cases h : 1 ≤ s.size
  · have HP : Hid (((s.extract 0 1).toList == [47]) = (s.data.toList.head? == some 47)) := pre_one s h
    go_enter Try.func17, Try.ntmps17
    go_wp2
    go_ret
    exact ⟨ret_bool HP.out, rfl⟩
  · have HP : Hid (false = (s.data.toList.head? == some 47)) := by
      unfold Hid
      have : s.data.toList = [] := List.eq_nil_of_length_eq_zero (by rw [Array.length_toList]; show s.size = 0; omega)
      rw [this]; rfl
    go_enter Try.func17, Try.ntmps17
    go_wp2
    go_ret
    exact ⟨ret_bool HP.out, rfl⟩

set_option maxRecDepth 100000 in
theorem target_any (s : ByteArray) (w : World) (hs : s.size ≤ maxLen) :
    Calls Try.prog 14 #[.string s] w fun e w' => e = .returned (.bool (Pl.tg s.data.toList)) ∧ w' = w := by
  cases hh : (s.data.toList.head? == some 47) with
  | false =>
    have HH : Hid ((s.data.toList.head? == some 47) = false) := hh
    clear hh
    go_enter Try.func14, Try.ntmps14
    go_wp2_with fail
    refine (hasPrefix_any s _ hs).mono ?_
    rintro e w' ⟨rfl, rfl⟩
    rw [HH.out]
    go_wp2
    go_ret
    exact ⟨ret_bool (Pl.tg_head _ HH.out).symm, rfl⟩
  | true =>
    have HH : Hid ((s.data.toList.head? == some 47) = true) := hh
    clear hh
    go_enter Try.func14, Try.ntmps14
    go_wp2_with fail
    refine (hasPrefix_any s _ hs).mono ?_
    rintro e w' ⟨rfl, rfl⟩
    rw [HH.out]
    unfold maxLen at hs
    go_wp2
    go_loop [3] (fun i => ∃ k : Nat, k ≤ s.size ∧ i = .int .i64 k ∧ Pl.okL (s.data.toList.take k) = true) (fun i => s.size - (intOf i).toNat)
    case atStart => exact ⟨0, Nat.zero_le _, rfl, rfl⟩
    case round =>
      obtain ⟨k, hk, rfl, hall⟩ := hrel
      have HA : Hid (Pl.okL (s.data.toList.take k) = true) := hall
      clear hall
      by_cases hlt : k < s.size
      · go_wp2
        all_goals first
          | (go_round; case rel => exact ⟨k + 1, by omega, by go_num, Pl.okL_step s k hlt HA.out (by simp only [beq_eq_false_iff_ne, ne_eq] at *; omega)⟩
             case measure => simp [intOf]; omega)
          | (go_ret; exact ⟨ret_bool (Pl.tg_no s k hlt (by simp only [beq_iff_eq] at *; omega)).symm, rfl⟩)
          | (go_ret; exact ⟨ret_bool (Pl.tg_no s k hlt (by omega)).symm, rfl⟩)
      · go_wp2
        go_ret
        exact ⟨ret_bool (Pl.tg_yes s k hlt HH.out HA.out).symm, rfl⟩

theorem zzTarget_any (s : ByteArray) (b : Bool) (w : World) (hs : s.size ≤ maxLen) (hb : Hid (Pl.tg s.data.toList = b)) :
    Calls Try.prog 10 #[.string s] w fun e w' => e = .returned (.bool b) ∧ w' = w := by
  go_enter Try.func10, Try.ntmps10
  go_wp2_with fail
  refine (target_any _ _ hs).mono ?_
  rintro e w' ⟨rfl, rfl⟩
  rw [hb.out]
  go_wp2
  go_ret
  exact ⟨rfl, rfl⟩
end Go.Proofs.Qxb6617427a
