/-
  THE WALK of FnIsHexLengthCutAndRendering.
-/
import Derived.Test.Qxb6617427aSwap
import Derived.Deep.QuietTactic
import Derived.BigQuiet
namespace Go.Proofs.Qxb6617427a
open Go.RowKit

theorem hex_big (s : ByteArray) (n k : Int) (w : World) (hs : s.size ≤ maxLen) (h : 65536 < s.size) :
    Calls Try.prog 3 #[.string s, .int .i64 n, .int .i64 k] w fun e w' => e = .returned (.bool true) ∧ Below w.heap.size w w' := by
  by_cases h2 : s.size ≤ 1048576
  · go_enter Try.func3, Try.ntmps3
    go_wp2_with fail
    refine (bytes_any _ _ _ _ hs).mono ?_
    rintro e w' ⟨rfl, rfl⟩
    rw [show decide (s.size ≤ 1048576) = true by simp [h2]]
    unfold maxLen at hs
    go_wp2
    go_ret
    exact ⟨rfl, Below.refl _ _⟩
  · go_enter Try.func3, Try.ntmps3
    go_wp2_with fail
    refine (bytes_any _ _ _ _ hs).mono ?_
    rintro e w' ⟨rfl, rfl⟩
    rw [show decide (s.size ≤ 1048576) = false by simp [h2]]
    unfold maxLen at hs
    go_wp2
    go_ret
    exact ⟨rfl, Below.refl _ _⟩

theorem hex_out (s : ByteArray) (n k : Int) (w : World) (hs : s.size ≤ 65536) (h : k < 0 ∨ (s.size : Int) < k) :
    Calls Try.prog 3 #[.string s, .int .i64 n, .int .i64 k] w fun e w' => e = .returned (.bool true) ∧ Below w.heap.size w w' := by
  rcases h with h | h
  all_goals
    go_enter Try.func3, Try.ntmps3
    go_wp2_with fail
    refine (bytes_any _ _ _ _ (by unfold maxLen; omega)).mono ?_
    rintro e w' ⟨rfl, rfl⟩
    rw [show decide (s.size ≤ 1048576) = true by simp; omega]
    go_wp2
    all_goals
      go_ret
      exact ⟨rfl, Below.refl _ _⟩

theorem bad_list (t : ByteArray) (j : Nat) : (t.extract 0 j ++ (⟨#[103]⟩ : ByteArray) ++ t.extract j t.size).data.toList = t.data.toList.take j ++ [103] ++ (t.extract j t.size).data.toList := by
  simp [ByteArray.data_append, ByteArray.data_extract]
theorem bad_no (t : ByteArray) (j : Nat) : Hid (Pl.hexL (t.extract 0 j ++ (⟨#[103]⟩ : ByteArray) ++ t.extract j t.size).data.toList = false) := by
  unfold Hid
  rw [bad_list]
  exact Pl.hexL_bad _ _
theorem bad_size (t : ByteArray) (j : Nat) (h : j ≤ t.size) (h2 : t.size ≤ 131072) : (t.extract 0 j ++ (⟨#[103]⟩ : ByteArray) ++ t.extract j t.size).size ≤ 131073 := by
  have e : (⟨#[103]⟩ : ByteArray).size = 1 := rfl
  simp only [ByteArray.size_append, ByteArray.size_extract, e]
  omega
theorem hexB_self (t : ByteArray) (h : Pl.hexL t.data.toList = true) : Hid (Pl.isHexB t t.size = true) := by
  unfold Hid Pl.isHexB
  simp [h]
theorem hexB_bad (t : ByteArray) (n : Int) (h : Pl.hexL t.data.toList = false) : Hid (Pl.isHexB t n = false) := by
  unfold Hid Pl.isHexB
  rw [h, Bool.and_false]
theorem hexB_ne (t : ByteArray) (n : Int) (h : ¬ (t.size : Int) = n) : Hid (Pl.isHexB t n = false) := by
  unfold Hid Pl.isHexB
  simp [h]
theorem below_mid {w w1 w2 w3 : World} {nq : Nat} (h1 : Below w.heap.size w w1) (h2 : w2 = w1.drewN nq) (h3 : Below w2.heap.size w2 w3) : Below w.heap.size w w3 := by
  subst h2
  exact (below_drewN h1 nq).trans (h3.mono (below_drewN h1 nq).size)

set_option maxRecDepth 100000 in
set_option maxHeartbeats 1600000 in
theorem hex_yes (s : ByteArray) (n : Int) (k : Nat) (b2 : Bool) (w : World) (hs : s.size ≤ 65536) (h : k ≤ s.size)
    (H0 : Hid (Pl.isHexB s s.size = b2)) (H1 : Hid (Pl.isHexB (s.extract 0 k) k = true)) (H2 : Hid (Pl.isHexB (s.extract k s.size) ((s.size : Int) - k) = b2)) (d : Bool) (hd : (n == (s.size : Int)) = d) (H3 : Hid (Pl.isHexB s n = (d && b2))) :
    Calls Try.prog 3 #[.string s, .int .i64 n, .int .i64 (k : Int)] w fun e w' => e = .returned (.bool true) ∧ Below w.heap.size w w' := by
  have h1 : ¬ (65536 : Int) < (s.size : Int) := by omega
  have h2 : ¬ (k : Int) < 0 := by omega
  have h3 : ¬ (s.size : Int) < (k : Int) := by omega
  cases d <;> cases b2
  all_goals
    go_enter Try.func3, Try.ntmps3
    go_wp2_with fail
    refine (bytes_any _ _ _ _ (by unfold maxLen; omega)).mono ?_
    rintro e w' ⟨rfl, rfl⟩
    rw [show decide (s.size ≤ 1048576) = true by simp; omega]
    go_wp2_with fail
    refine (zzIsHex_any _ _ _ _ (by unfold maxLen; omega) H0).mono ?_
    rintro e w' ⟨rfl, rfl⟩
    go_wp2_with fail
    refine (zzIsHex_any _ _ _ _ (by unfold maxLen; omega) H3).mono ?_
    rintro e w' ⟨rfl, rfl⟩
    go_wp2_with fail
    refine (zzIsHex_any _ _ _ _ (by simp [maxLen]; omega) H1).mono ?_
    rintro e w' ⟨rfl, rfl⟩
    go_wp2_with fail
    refine (zzIsHex_any _ _ _ _ (by simp [maxLen]; omega) H2).mono ?_
    rintro e w' ⟨rfl, rfl⟩
    go_wp2_with fail
    refine (hexOf_any s _ (by omega)).mono ?_
    rintro e w1 ⟨rfl, hb1⟩
    have HT : Hid (Pl.hexL (⟨(Pl.hexOf s.data.toList).toArray⟩ : ByteArray).data.toList = true) := Pl.hexL_hexOf _
    have ht : (⟨(Pl.hexOf s.data.toList).toArray⟩ : ByteArray).size = 2 * s.size := by
      show (Pl.hexOf s.data.toList).toArray.size = _
      rw [List.size_toArray, Pl.hexOf_length]; simp
    generalize (⟨(Pl.hexOf s.data.toList).toArray⟩ : ByteArray) = t at *
    have HB1 : Hid (Below w'.heap.size w' w1) := hb1
    clear hb1 H0 H1 H2 H3 hd
    go_wp2_with fail
    obtain ⟨j, hj⟩ : ∃ j : Nat, j = 2 * k := ⟨_, rfl⟩
    rw [show (2 * (k : Int)) = ((j : Nat) : Int) from by omega]
    have hj1 : j ≤ t.size := by omega
    have hj2 : t.size ≤ 131072 := by omega
    clear hj ht
    go_quiet (fail)
    have HBd : Hid (Pl.hexL (t.extract 0 j ++ ⟨#[103]⟩ ++ t.extract j t.size).data.toList = false) := bad_no t j
    have hbs : (t.extract 0 j ++ ⟨#[103]⟩ ++ t.extract j t.size).size ≤ 131073 := bad_size t j hj1 hj2
    generalize (t.extract 0 j ++ (⟨#[103]⟩ : ByteArray) ++ t.extract j t.size) = bd at *
    go_wp2_with fail
    refine (zzIsHex_any _ _ true _ (by unfold maxLen; omega) (hexB_self t HT.out)).mono ?_
    rintro e w2 ⟨rfl, hw2⟩
    have HW2 : Hid (w2 = w1.drewN nq) := hw2
    clear hw2
    go_wp2_with fail
    refine (swap_any t _ (by omega)).mono ?_
    rintro e w3 ⟨rfl, hb3⟩
    have HB3 : Hid (Below w'.heap.size w' w3) := below_mid HB1.out HW2.out hb3
    clear hb3 HB1 HW2
    have HT2 : Hid (Pl.hexL (⟨(t.data.toList.map Pl.swU).toArray⟩ : ByteArray).data.toList = true) := Pl.hexL_sw _ HT.out
    have ht2 : (⟨(t.data.toList.map Pl.swU).toArray⟩ : ByteArray).size = t.size := by
      show (t.data.toList.map Pl.swU).toArray.size = _
      simp
    have HE2 : Hid (Pl.isHexB (⟨(t.data.toList.map Pl.swU).toArray⟩ : ByteArray) t.size = true) := by
      have := hexB_self _ HT2.out
      rw [ht2] at this
      exact this
    generalize (⟨(t.data.toList.map Pl.swU).toArray⟩ : ByteArray) = t2 at *
    go_wp2_with fail
    refine (zzIsHex_any _ _ true _ (by unfold maxLen; omega) HE2).mono ?_
    rintro e w4 ⟨rfl, rfl⟩
    go_wp2_with fail
    refine (zzIsHex_any _ _ false _ (by unfold maxLen; omega) (hexB_ne t _ (by omega))).mono ?_
    rintro e w4 ⟨rfl, rfl⟩
    go_wp2_with fail
    refine (zzIsHex_any _ _ false _ (by unfold maxLen; omega) (hexB_ne t _ (by omega))).mono ?_
    rintro e w4 ⟨rfl, rfl⟩
    go_wp2_with fail
    refine (zzIsHex_any _ _ false _ (by unfold maxLen; omega) (hexB_bad bd _ HBd.out)).mono ?_
    rintro e w4 ⟨rfl, rfl⟩
    go_wp2
    go_ret
    exact ⟨rfl, HB3.out⟩

set_option maxRecDepth 100000 in
set_option maxHeartbeats 1600000 in
theorem hex_no (s : ByteArray) (n : Int) (k : Nat) (w : World) (hs : s.size ≤ 65536) (h : k ≤ s.size)
    (H0 : Hid (Pl.isHexB s s.size = false)) (H1 : Hid (Pl.isHexB (s.extract 0 k) k = false)) (d : Bool) (hd : (n == (s.size : Int)) = d) (H3 : Hid (Pl.isHexB s n = false)) :
    Calls Try.prog 3 #[.string s, .int .i64 n, .int .i64 (k : Int)] w fun e w' => e = .returned (.bool true) ∧ Below w.heap.size w w' := by
  have h1 : ¬ (65536 : Int) < (s.size : Int) := by omega
  have h2 : ¬ (k : Int) < 0 := by omega
  have h3 : ¬ (s.size : Int) < (k : Int) := by omega
  cases d
  all_goals
    go_enter Try.func3, Try.ntmps3
    go_wp2_with fail
    refine (bytes_any _ _ _ _ (by unfold maxLen; omega)).mono ?_
    rintro e w' ⟨rfl, rfl⟩
    rw [show decide (s.size ≤ 1048576) = true by simp; omega]
    go_wp2_with fail
    refine (zzIsHex_any _ _ _ _ (by unfold maxLen; omega) H0).mono ?_
    rintro e w' ⟨rfl, rfl⟩
    go_wp2_with fail
    refine (zzIsHex_any _ _ _ _ (by unfold maxLen; omega) H3).mono ?_
    rintro e w' ⟨rfl, rfl⟩
    go_wp2_with fail
    refine (zzIsHex_any _ _ _ _ (by simp [maxLen]; omega) H1).mono ?_
    rintro e w' ⟨rfl, rfl⟩
    go_wp2_with fail
    refine (hexOf_any s _ (by omega)).mono ?_
    rintro e w1 ⟨rfl, hb1⟩
    have HT : Hid (Pl.hexL (⟨(Pl.hexOf s.data.toList).toArray⟩ : ByteArray).data.toList = true) := Pl.hexL_hexOf _
    have ht : (⟨(Pl.hexOf s.data.toList).toArray⟩ : ByteArray).size = 2 * s.size := by
      show (Pl.hexOf s.data.toList).toArray.size = _
      rw [List.size_toArray, Pl.hexOf_length]; simp
    generalize (⟨(Pl.hexOf s.data.toList).toArray⟩ : ByteArray) = t at *
    have HB1 : Hid (Below w'.heap.size w' w1) := hb1
    clear hb1 H0 H1 H3 hd
    go_wp2_with fail
    obtain ⟨j, hj⟩ : ∃ j : Nat, j = 2 * k := ⟨_, rfl⟩
    rw [show (2 * (k : Int)) = ((j : Nat) : Int) from by omega]
    have hj1 : j ≤ t.size := by omega
    have hj2 : t.size ≤ 131072 := by omega
    clear hj ht
    go_quiet (fail)
    have HBd : Hid (Pl.hexL (t.extract 0 j ++ ⟨#[103]⟩ ++ t.extract j t.size).data.toList = false) := bad_no t j
    have hbs : (t.extract 0 j ++ ⟨#[103]⟩ ++ t.extract j t.size).size ≤ 131073 := bad_size t j hj1 hj2
    generalize (t.extract 0 j ++ (⟨#[103]⟩ : ByteArray) ++ t.extract j t.size) = bd at *
    go_wp2_with fail
    refine (zzIsHex_any _ _ true _ (by unfold maxLen; omega) (hexB_self t HT.out)).mono ?_
    rintro e w2 ⟨rfl, hw2⟩
    have HW2 : Hid (w2 = w1.drewN nq) := hw2
    clear hw2
    go_wp2_with fail
    refine (swap_any t _ (by omega)).mono ?_
    rintro e w3 ⟨rfl, hb3⟩
    have HB3 : Hid (Below w'.heap.size w' w3) := below_mid HB1.out HW2.out hb3
    clear hb3 HB1 HW2
    have HT2 : Hid (Pl.hexL (⟨(t.data.toList.map Pl.swU).toArray⟩ : ByteArray).data.toList = true) := Pl.hexL_sw _ HT.out
    have ht2 : (⟨(t.data.toList.map Pl.swU).toArray⟩ : ByteArray).size = t.size := by
      show (t.data.toList.map Pl.swU).toArray.size = _
      simp
    have HE2 : Hid (Pl.isHexB (⟨(t.data.toList.map Pl.swU).toArray⟩ : ByteArray) t.size = true) := by
      have := hexB_self _ HT2.out
      rw [ht2] at this
      exact this
    generalize (⟨(t.data.toList.map Pl.swU).toArray⟩ : ByteArray) = t2 at *
    go_wp2_with fail
    refine (zzIsHex_any _ _ true _ (by unfold maxLen; omega) HE2).mono ?_
    rintro e w4 ⟨rfl, rfl⟩
    go_wp2_with fail
    refine (zzIsHex_any _ _ false _ (by unfold maxLen; omega) (hexB_ne t _ (by omega))).mono ?_
    rintro e w4 ⟨rfl, rfl⟩
    go_wp2_with fail
    refine (zzIsHex_any _ _ false _ (by unfold maxLen; omega) (hexB_ne t _ (by omega))).mono ?_
    rintro e w4 ⟨rfl, rfl⟩
    go_wp2_with fail
    refine (zzIsHex_any _ _ false _ (by unfold maxLen; omega) (hexB_bad bd _ HBd.out)).mono ?_
    rintro e w4 ⟨rfl, rfl⟩
    go_wp2
    go_ret
    exact ⟨rfl, HB3.out⟩

theorem hexB_cut (s : ByteArray) (k : Nat) (h : k ≤ s.size) : Pl.isHexB s s.size = (Pl.isHexB (s.extract 0 k) k && Pl.isHexB (s.extract k s.size) ((s.size : Int) - k)) := by
  have e1 : (s.extract 0 k).size = k := by simp; omega
  have e2 : ((s.extract k s.size).size : Int) = (s.size : Int) - k := by rw [ByteArray.size_extract]; omega
  have e3 : s.data.toList = (s.extract 0 k).data.toList ++ (s.extract k s.size).data.toList := by
    rw [ByteArray.data_extract, ByteArray.data_extract]
    simp
    rw [List.take_of_length_le (i := s.size - k) (by simp), List.take_append_drop]
  unfold Pl.isHexB
  rw [e1, e2]
  simp only [decide_true, Bool.true_and]
  rw [e3, Pl.hexL_append]
theorem hexB_len (s : ByteArray) (n : Int) : Pl.isHexB s n = ((n == (s.size : Int)) && Pl.isHexB s s.size) := by
  unfold Pl.isHexB
  by_cases h : (s.size : Int) = n
  · simp [h]
  · have : ¬ n = (s.size : Int) := fun e => h e.symm
    simp [h, this]

/-- THE WALK: whatever the input. -/
theorem hex_walk (s : ByteArray) (n k : Int) (w : World) (hs : s.size ≤ maxLen) :
    Calls Try.prog 3 #[.string s, .int .i64 n, .int .i64 k] w fun e w' => e = .returned (.bool true) ∧ Below w.heap.size w w' := by
  by_cases hb : 65536 < s.size
  · exact hex_big s n k w hs hb
  · by_cases ho : k < 0 ∨ (s.size : Int) < k
    · exact hex_out s n k w (by omega) ho
    · obtain ⟨k, rfl⟩ := Int.eq_ofNat_of_zero_le (show 0 ≤ k by omega)
      have hk : k ≤ s.size := by omega
      have hc := hexB_cut s k hk
      have hl := hexB_len s n
      cases h1 : Pl.isHexB (s.extract 0 k) k with
      | true =>
        rw [h1, Bool.true_and] at hc
        rw [hc] at hl
        exact hex_yes s n k _ w (by omega) hk hc h1 rfl _ rfl hl
      | false =>
        rw [h1, Bool.false_and] at hc
        rw [hc, Bool.and_false] at hl
        exact hex_no s n k w (by omega) hk hc h1 _ rfl hl
end Go.Proofs.Qxb6617427a
