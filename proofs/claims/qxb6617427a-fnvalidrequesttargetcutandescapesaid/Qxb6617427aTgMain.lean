/-
  THE WALK of FnValidRequestTargetCutAndEscape.
-/
import Derived.Test.Qxb6617427aEsc
namespace Go.Proofs.Qxb6617427a
open Go.RowKit

theorem tg_big (s : ByteArray) (k : Int) (w : World) (hs : s.size ≤ maxLen) (h : 65536 < s.size) :
    Calls Try.prog 4 #[.string s, .int .i64 k] w fun e w' => e = .returned (.bool true) ∧ Below w.heap.size w w' := by
  by_cases h2 : s.size ≤ 1048576
  · go_enter Try.func4, Try.ntmps4
    go_wp2_with fail
    refine (bytesB_any _ _ _ hs).mono ?_
    rintro e w' ⟨rfl, rfl⟩
    rw [show decide (s.size ≤ 1048576) = true by simp [h2]]
    unfold maxLen at hs
    go_wp2
    go_ret
    exact ⟨rfl, Below.refl _ _⟩
  · go_enter Try.func4, Try.ntmps4
    go_wp2_with fail
    refine (bytesB_any _ _ _ hs).mono ?_
    rintro e w' ⟨rfl, rfl⟩
    rw [show decide (s.size ≤ 1048576) = false by simp [h2]]
    unfold maxLen at hs
    go_wp2
    go_ret
    exact ⟨rfl, Below.refl _ _⟩

theorem tg_out (s : ByteArray) (k : Int) (w : World) (hs : s.size ≤ 65536) (h : k < 0 ∨ (s.size : Int) < k) :
    Calls Try.prog 4 #[.string s, .int .i64 k] w fun e w' => e = .returned (.bool true) ∧ Below w.heap.size w w' := by
  rcases h with h | h
  all_goals
    go_enter Try.func4, Try.ntmps4
    go_wp2_with fail
    refine (bytesB_any _ _ _ (by unfold maxLen; omega)).mono ?_
    rintro e w' ⟨rfl, rfl⟩
    rw [show decide (s.size ≤ 1048576) = true by simp; omega]
    go_wp2
    all_goals
      go_ret
      exact ⟨rfl, Below.refl _ _⟩

theorem esc_facts (l : List UInt8) (e : ByteArray) (he : e = ⟨(Pl.escL l).toArray⟩) :
    Pl.tg e.data.toList = true ∧ Pl.tg (e ++ (⟨#[35]⟩ : ByteArray)).data.toList = false ∧ Pl.tg (e ++ (⟨#[32]⟩ : ByteArray)).data.toList = false ∧ Pl.tg (e.extract 1 e.size).data.toList = false ∧ Pl.tg (e.extract 0 1 ++ (⟨#[127]⟩ : ByteArray)).data.toList = false ∧
      1 ≤ e.size ∧ e.size ≤ 1 + 3 * l.length := by
  have hl : e.data.toList = Pl.escL l := by rw [he]
  have hsz : e.size = (Pl.escL l).length := by rw [he]; show (Pl.escL l).toArray.size = _; simp
  refine ⟨by rw [hl]; exact Pl.tg_esc l, ?_, ?_, ?_, ?_, ?_, ?_⟩
  · rw [ByteArray.data_append, Array.toList_append]; exact Pl.tg_snoc_bad _ 35 (by decide)
  · rw [ByteArray.data_append, Array.toList_append]; exact Pl.tg_snoc_bad _ 32 (by decide)
  · have : (e.extract 1 e.size).data.toList = l.flatMap Pl.esc1 := by
      rw [ByteArray.data_extract]
      simp only [Array.toList_extract, List.extract_eq_take_drop]
      rw [hl, List.take_of_length_le (by rw [List.length_drop, hsz]; exact Nat.le_refl _)]
      rfl
    rw [this]
    exact Pl.tg_esc_tail l
  · rw [ByteArray.data_append, Array.toList_append]; exact Pl.tg_snoc_bad _ 127 (by decide)
  · rw [hsz]; unfold Pl.escL; simp
  · rw [hsz]; exact Pl.escL_length l

theorem small (t u : ByteArray) (n : Nat) (hu : u.size = n) (ht : t.size ≤ 200000) (hn : n ≤ 10) : (t ++ u).size ≤ maxLen := by
  rw [ByteArray.size_append]; unfold maxLen; omega
theorem small2 (t : ByteArray) (ht : t.size ≤ 65536) : ((⟨#[47]⟩ : ByteArray) ++ t).size ≤ maxLen := by
  rw [ByteArray.size_append]
  have : (⟨#[47]⟩ : ByteArray).size = 1 := rfl
  unfold maxLen; omega

set_option maxRecDepth 100000 in
set_option maxHeartbeats 400000 in
theorem tg_A (s : ByteArray) (k : Nat) (w : World) (hs : s.size = 0) (hk : k = 0) (H0 : Hid (Pl.tg s.data.toList = false)) :
    Calls Try.prog 4 #[.string s, .int .i64 (k : Int)] w fun e w' => e = .returned (.bool true) ∧ Below w.heap.size w w' := by
  subst hk
  have hz : ¬ (0 : Int) < (s.size : Int) := by omega
  have h1 : ¬ (65536 : Int) < (s.size : Int) := by omega
  have h3 : ¬ (s.size : Int) < ((0 : Nat) : Int) := by omega
  have HS : Hid (s.size = 0) := hs
  have hs : s.size ≤ 65536 := by have := HS.out; omega
  clear HS
  go_enter Try.func4, Try.ntmps4
  go_wp2_with fail
  refine (bytesB_any _ _ _ (by unfold maxLen; omega)).mono ?_
  rintro e w' ⟨rfl, rfl⟩
  rw [show decide (s.size ≤ 1048576) = true by simp; omega]
  go_wp2_with fail
  refine (zzTarget_any _ _ _ (by unfold maxLen; omega) H0).mono ?_
  rintro e w' ⟨rfl, rfl⟩
  go_wp2_with fail
  refine (esc_any s _ (by omega)).mono ?_
  rintro e w1 ⟨rfl, hb1⟩
  obtain ⟨t1, t2, t3, t4, t5, t6, t7⟩ := esc_facts s.data.toList _ rfl
  generalize (⟨(Pl.escL s.data.toList).toArray⟩ : ByteArray) = t at *
  have t8 : t.size ≤ 200000 := by simp at t7; omega
  have HB1 : Hid (Below w'.heap.size w' w1) := hb1
  have T1 : Hid (Pl.tg t.data.toList = true) := t1
  have T2 : Hid (Pl.tg (t ++ (⟨#[35]⟩ : ByteArray)).data.toList = false) := t2
  have T3 : Hid (Pl.tg (t ++ (⟨#[32]⟩ : ByteArray)).data.toList = false) := t3
  have T4 : Hid (Pl.tg (t.extract 1 t.size).data.toList = false) := t4
  have T5 : Hid (Pl.tg (t.extract 0 1 ++ (⟨#[127]⟩ : ByteArray)).data.toList = false) := t5
  clear hb1 t1 t2 t3 t4 t5 t7 H0
  go_wp2_with fail
  refine (zzTarget_any _ _ _ (by unfold maxLen; omega) T1).mono ?_
  rintro e w2 ⟨rfl, rfl⟩
  go_wp2_with fail
  refine (zzTarget_any _ _ _ (small t _ 1 rfl t8 (by omega)) T2).mono ?_
  rintro e w2 ⟨rfl, rfl⟩
  go_wp2_with fail
  refine (zzTarget_any _ _ _ (small t _ 1 rfl t8 (by omega)) T3).mono ?_
  rintro e w2 ⟨rfl, rfl⟩
  go_wp2_with fail
  refine (zzTarget_any _ _ _ (by simp [maxLen]; omega) T4).mono ?_
  rintro e w2 ⟨rfl, rfl⟩
  go_wp2_with fail
  refine (zzTarget_any _ _ _ (small _ _ 1 rfl (by simp; omega) (by omega)) T5).mono ?_
  rintro e w2 ⟨rfl, rfl⟩
  go_wp2
  go_ret
  exact ⟨rfl, HB1.out⟩

set_option maxRecDepth 100000 in
set_option maxHeartbeats 400000 in
theorem tg_B0 (s : ByteArray) (k : Nat) (w : World) (hs : s.size ≤ 65536) (hz : 0 < s.size) (h47 : ((s[0].toNat : Int) == 47) = false) (hk : k = 0) (H0 : Hid (Pl.tg s.data.toList = false)) :
    Calls Try.prog 4 #[.string s, .int .i64 (k : Int)] w fun e w' => e = .returned (.bool true) ∧ Below w.heap.size w w' := by
  subst hk
  have h1 : ¬ (65536 : Int) < (s.size : Int) := by omega
  have h3 : ¬ (s.size : Int) < ((0 : Nat) : Int) := by omega
  go_enter Try.func4, Try.ntmps4
  go_wp2_with fail
  refine (bytesB_any _ _ _ (by unfold maxLen; omega)).mono ?_
  rintro e w' ⟨rfl, rfl⟩
  rw [show decide (s.size ≤ 1048576) = true by simp; omega]
  go_wp2_with fail
  refine (zzTarget_any _ _ _ (by unfold maxLen; omega) H0).mono ?_
  rintro e w' ⟨rfl, rfl⟩
  go_wp2_with fail
  refine (esc_any s _ (by omega)).mono ?_
  rintro e w1 ⟨rfl, hb1⟩
  obtain ⟨t1, t2, t3, t4, t5, t6, t7⟩ := esc_facts s.data.toList _ rfl
  generalize (⟨(Pl.escL s.data.toList).toArray⟩ : ByteArray) = t at *
  have t8 : t.size ≤ 200000 := by simp at t7; omega
  have HB1 : Hid (Below w'.heap.size w' w1) := hb1
  have T1 : Hid (Pl.tg t.data.toList = true) := t1
  have T2 : Hid (Pl.tg (t ++ (⟨#[35]⟩ : ByteArray)).data.toList = false) := t2
  have T3 : Hid (Pl.tg (t ++ (⟨#[32]⟩ : ByteArray)).data.toList = false) := t3
  have T4 : Hid (Pl.tg (t.extract 1 t.size).data.toList = false) := t4
  have T5 : Hid (Pl.tg (t.extract 0 1 ++ (⟨#[127]⟩ : ByteArray)).data.toList = false) := t5
  clear hb1 t1 t2 t3 t4 t5 t7 H0
  go_wp2_with fail
  refine (zzTarget_any _ _ _ (by unfold maxLen; omega) T1).mono ?_
  rintro e w2 ⟨rfl, rfl⟩
  go_wp2_with fail
  refine (zzTarget_any _ _ _ (small t _ 1 rfl t8 (by omega)) T2).mono ?_
  rintro e w2 ⟨rfl, rfl⟩
  go_wp2_with fail
  refine (zzTarget_any _ _ _ (small t _ 1 rfl t8 (by omega)) T3).mono ?_
  rintro e w2 ⟨rfl, rfl⟩
  go_wp2_with fail
  refine (zzTarget_any _ _ _ (by simp [maxLen]; omega) T4).mono ?_
  rintro e w2 ⟨rfl, rfl⟩
  go_wp2_with fail
  refine (zzTarget_any _ _ _ (small _ _ 1 rfl (by simp; omega) (by omega)) T5).mono ?_
  rintro e w2 ⟨rfl, rfl⟩
  go_wp2
  go_ret
  exact ⟨rfl, HB1.out⟩

set_option maxRecDepth 100000 in
set_option maxHeartbeats 400000 in
theorem tg_B1 (s : ByteArray) (k : Nat) (w : World) (hs : s.size ≤ 65536) (hz : 0 < s.size) (h47 : ((s[0].toNat : Int) == 47) = false) (hk : k ≤ s.size) (hk0 : ((k : Int) == 0) = false) (H0 : Hid (Pl.tg s.data.toList = false)) (H1 : Hid (Pl.tg (s.extract 0 k).data.toList = false)) :
    Calls Try.prog 4 #[.string s, .int .i64 (k : Int)] w fun e w' => e = .returned (.bool true) ∧ Below w.heap.size w w' := by
  have h1 : ¬ (65536 : Int) < (s.size : Int) := by omega
  have h2 : ¬ (k : Int) < 0 := by omega
  have h3 : ¬ (s.size : Int) < (k : Int) := by omega
  go_enter Try.func4, Try.ntmps4
  go_wp2_with fail
  refine (bytesB_any _ _ _ (by unfold maxLen; omega)).mono ?_
  rintro e w' ⟨rfl, rfl⟩
  rw [show decide (s.size ≤ 1048576) = true by simp; omega]
  go_wp2_with fail
  refine (zzTarget_any _ _ _ (by unfold maxLen; omega) H0).mono ?_
  rintro e w' ⟨rfl, rfl⟩
  go_wp2_with fail
  refine (zzTarget_any _ _ _ (by simp [maxLen]; omega) H1).mono ?_
  rintro e w' ⟨rfl, rfl⟩
  go_wp2_with fail
  refine (esc_any s _ (by omega)).mono ?_
  rintro e w1 ⟨rfl, hb1⟩
  obtain ⟨t1, t2, t3, t4, t5, t6, t7⟩ := esc_facts s.data.toList _ rfl
  generalize (⟨(Pl.escL s.data.toList).toArray⟩ : ByteArray) = t at *
  have t8 : t.size ≤ 200000 := by simp at t7; omega
  have HB1 : Hid (Below w'.heap.size w' w1) := hb1
  have T1 : Hid (Pl.tg t.data.toList = true) := t1
  have T2 : Hid (Pl.tg (t ++ (⟨#[35]⟩ : ByteArray)).data.toList = false) := t2
  have T3 : Hid (Pl.tg (t ++ (⟨#[32]⟩ : ByteArray)).data.toList = false) := t3
  have T4 : Hid (Pl.tg (t.extract 1 t.size).data.toList = false) := t4
  have T5 : Hid (Pl.tg (t.extract 0 1 ++ (⟨#[127]⟩ : ByteArray)).data.toList = false) := t5
  clear hb1 t1 t2 t3 t4 t5 t7 H0 H1
  go_wp2_with fail
  refine (zzTarget_any _ _ _ (by unfold maxLen; omega) T1).mono ?_
  rintro e w2 ⟨rfl, rfl⟩
  go_wp2_with fail
  refine (zzTarget_any _ _ _ (small t _ 1 rfl t8 (by omega)) T2).mono ?_
  rintro e w2 ⟨rfl, rfl⟩
  go_wp2_with fail
  refine (zzTarget_any _ _ _ (small t _ 1 rfl t8 (by omega)) T3).mono ?_
  rintro e w2 ⟨rfl, rfl⟩
  go_wp2_with fail
  refine (zzTarget_any _ _ _ (by simp [maxLen]; omega) T4).mono ?_
  rintro e w2 ⟨rfl, rfl⟩
  go_wp2_with fail
  refine (zzTarget_any _ _ _ (small _ _ 1 rfl (by simp; omega) (by omega)) T5).mono ?_
  rintro e w2 ⟨rfl, rfl⟩
  go_wp2
  go_ret
  exact ⟨rfl, HB1.out⟩

set_option maxRecDepth 100000 in
set_option maxHeartbeats 400000 in
theorem tg_C0 (s : ByteArray) (k : Nat) (b : Bool) (w : World) (hs : s.size ≤ 65536) (hz : 0 < s.size) (h47 : ((s[0].toNat : Int) == 47) = true) (hk : k = 0) (H0 : Hid (Pl.tg s.data.toList = b)) (H2 : Hid (Pl.tg ((⟨#[47]⟩ : ByteArray) ++ s).data.toList = b)) :
    Calls Try.prog 4 #[.string s, .int .i64 (k : Int)] w fun e w' => e = .returned (.bool true) ∧ Below w.heap.size w w' := by
  subst hk
  have h1 : ¬ (65536 : Int) < (s.size : Int) := by omega
  have h3 : ¬ (s.size : Int) < ((0 : Nat) : Int) := by omega
  go_enter Try.func4, Try.ntmps4
  go_wp2_with fail
  refine (bytesB_any _ _ _ (by unfold maxLen; omega)).mono ?_
  rintro e w' ⟨rfl, rfl⟩
  rw [show decide (s.size ≤ 1048576) = true by simp; omega]
  go_wp2_with fail
  refine (zzTarget_any _ _ _ (by unfold maxLen; omega) H0).mono ?_
  rintro e w' ⟨rfl, rfl⟩
  go_wp2_with fail
  refine (zzTarget_any _ _ _ (small2 s hs) H2).mono ?_
  rintro e w' ⟨rfl, rfl⟩
  go_wp2_with fail
  refine (esc_any s _ (by omega)).mono ?_
  rintro e w1 ⟨rfl, hb1⟩
  obtain ⟨t1, t2, t3, t4, t5, t6, t7⟩ := esc_facts s.data.toList _ rfl
  generalize (⟨(Pl.escL s.data.toList).toArray⟩ : ByteArray) = t at *
  have t8 : t.size ≤ 200000 := by simp at t7; omega
  have HB1 : Hid (Below w'.heap.size w' w1) := hb1
  have T1 : Hid (Pl.tg t.data.toList = true) := t1
  have T2 : Hid (Pl.tg (t ++ (⟨#[35]⟩ : ByteArray)).data.toList = false) := t2
  have T3 : Hid (Pl.tg (t ++ (⟨#[32]⟩ : ByteArray)).data.toList = false) := t3
  have T4 : Hid (Pl.tg (t.extract 1 t.size).data.toList = false) := t4
  have T5 : Hid (Pl.tg (t.extract 0 1 ++ (⟨#[127]⟩ : ByteArray)).data.toList = false) := t5
  clear hb1 t1 t2 t3 t4 t5 t7 H0 H2
  go_wp2_with fail
  refine (zzTarget_any _ _ _ (by unfold maxLen; omega) T1).mono ?_
  rintro e w2 ⟨rfl, rfl⟩
  go_wp2_with fail
  refine (zzTarget_any _ _ _ (small t _ 1 rfl t8 (by omega)) T2).mono ?_
  rintro e w2 ⟨rfl, rfl⟩
  go_wp2_with fail
  refine (zzTarget_any _ _ _ (small t _ 1 rfl t8 (by omega)) T3).mono ?_
  rintro e w2 ⟨rfl, rfl⟩
  go_wp2_with fail
  refine (zzTarget_any _ _ _ (by simp [maxLen]; omega) T4).mono ?_
  rintro e w2 ⟨rfl, rfl⟩
  go_wp2_with fail
  refine (zzTarget_any _ _ _ (small _ _ 1 rfl (by simp; omega) (by omega)) T5).mono ?_
  rintro e w2 ⟨rfl, rfl⟩
  go_wp2
  go_ret
  exact ⟨rfl, HB1.out⟩

set_option maxRecDepth 100000 in
set_option maxHeartbeats 400000 in
theorem tg_C1 (s : ByteArray) (k : Nat) (b : Bool) (w : World) (hs : s.size ≤ 65536) (hz : 0 < s.size) (h47 : ((s[0].toNat : Int) == 47) = true) (hk : k ≤ s.size) (hk0 : ((k : Int) == 0) = false) (H0 : Hid (Pl.tg s.data.toList = b)) (H2 : Hid (Pl.tg ((⟨#[47]⟩ : ByteArray) ++ s).data.toList = b)) (H1 : Hid (Pl.tg (s.extract 0 k).data.toList = true))
    (H3 : Hid (Pl.tg ((⟨#[47]⟩ : ByteArray) ++ s.extract k s.size).data.toList = b)) :
    Calls Try.prog 4 #[.string s, .int .i64 (k : Int)] w fun e w' => e = .returned (.bool true) ∧ Below w.heap.size w w' := by
  have h1 : ¬ (65536 : Int) < (s.size : Int) := by omega
  have h2 : ¬ (k : Int) < 0 := by omega
  have h3 : ¬ (s.size : Int) < (k : Int) := by omega
  go_enter Try.func4, Try.ntmps4
  go_wp2_with fail
  refine (bytesB_any _ _ _ (by unfold maxLen; omega)).mono ?_
  rintro e w' ⟨rfl, rfl⟩
  rw [show decide (s.size ≤ 1048576) = true by simp; omega]
  go_wp2_with fail
  refine (zzTarget_any _ _ _ (by unfold maxLen; omega) H0).mono ?_
  rintro e w' ⟨rfl, rfl⟩
  go_wp2_with fail
  refine (zzTarget_any _ _ _ (small2 s hs) H2).mono ?_
  rintro e w' ⟨rfl, rfl⟩
  go_wp2_with fail
  refine (zzTarget_any _ _ _ (by simp [maxLen]; omega) H1).mono ?_
  rintro e w' ⟨rfl, rfl⟩
  go_wp2_with fail
  refine (zzTarget_any _ _ _ (small2 _ (by simp; omega)) H3).mono ?_
  rintro e w' ⟨rfl, rfl⟩
  go_wp2_with fail
  refine (esc_any s _ (by omega)).mono ?_
  rintro e w1 ⟨rfl, hb1⟩
  obtain ⟨t1, t2, t3, t4, t5, t6, t7⟩ := esc_facts s.data.toList _ rfl
  generalize (⟨(Pl.escL s.data.toList).toArray⟩ : ByteArray) = t at *
  have t8 : t.size ≤ 200000 := by simp at t7; omega
  have HB1 : Hid (Below w'.heap.size w' w1) := hb1
  have T1 : Hid (Pl.tg t.data.toList = true) := t1
  have T2 : Hid (Pl.tg (t ++ (⟨#[35]⟩ : ByteArray)).data.toList = false) := t2
  have T3 : Hid (Pl.tg (t ++ (⟨#[32]⟩ : ByteArray)).data.toList = false) := t3
  have T4 : Hid (Pl.tg (t.extract 1 t.size).data.toList = false) := t4
  have T5 : Hid (Pl.tg (t.extract 0 1 ++ (⟨#[127]⟩ : ByteArray)).data.toList = false) := t5
  clear hb1 t1 t2 t3 t4 t5 t7 H0 H1 H2 H3
  go_wp2_with fail
  refine (zzTarget_any _ _ _ (by unfold maxLen; omega) T1).mono ?_
  rintro e w2 ⟨rfl, rfl⟩
  go_wp2_with fail
  refine (zzTarget_any _ _ _ (small t _ 1 rfl t8 (by omega)) T2).mono ?_
  rintro e w2 ⟨rfl, rfl⟩
  go_wp2_with fail
  refine (zzTarget_any _ _ _ (small t _ 1 rfl t8 (by omega)) T3).mono ?_
  rintro e w2 ⟨rfl, rfl⟩
  go_wp2_with fail
  refine (zzTarget_any _ _ _ (by simp [maxLen]; omega) T4).mono ?_
  rintro e w2 ⟨rfl, rfl⟩
  go_wp2_with fail
  refine (zzTarget_any _ _ _ (small _ _ 1 rfl (by simp; omega) (by omega)) T5).mono ?_
  rintro e w2 ⟨rfl, rfl⟩
  go_wp2
  go_ret
  exact ⟨rfl, HB1.out⟩

set_option maxRecDepth 100000 in
set_option maxHeartbeats 400000 in
theorem tg_C2 (s : ByteArray) (k : Nat) (w : World) (hs : s.size ≤ 65536) (hz : 0 < s.size) (h47 : ((s[0].toNat : Int) == 47) = true) (hk : k ≤ s.size) (hk0 : ((k : Int) == 0) = false) (H0 : Hid (Pl.tg s.data.toList = false)) (H2 : Hid (Pl.tg ((⟨#[47]⟩ : ByteArray) ++ s).data.toList = false)) (H1 : Hid (Pl.tg (s.extract 0 k).data.toList = false)) :
    Calls Try.prog 4 #[.string s, .int .i64 (k : Int)] w fun e w' => e = .returned (.bool true) ∧ Below w.heap.size w w' := by
  have h1 : ¬ (65536 : Int) < (s.size : Int) := by omega
  have h2 : ¬ (k : Int) < 0 := by omega
  have h3 : ¬ (s.size : Int) < (k : Int) := by omega
  go_enter Try.func4, Try.ntmps4
  go_wp2_with fail
  refine (bytesB_any _ _ _ (by unfold maxLen; omega)).mono ?_
  rintro e w' ⟨rfl, rfl⟩
  rw [show decide (s.size ≤ 1048576) = true by simp; omega]
  go_wp2_with fail
  refine (zzTarget_any _ _ _ (by unfold maxLen; omega) H0).mono ?_
  rintro e w' ⟨rfl, rfl⟩
  go_wp2_with fail
  refine (zzTarget_any _ _ _ (small2 s hs) H2).mono ?_
  rintro e w' ⟨rfl, rfl⟩
  go_wp2_with fail
  refine (zzTarget_any _ _ _ (by simp [maxLen]; omega) H1).mono ?_
  rintro e w' ⟨rfl, rfl⟩
  go_wp2_with fail
  refine (esc_any s _ (by omega)).mono ?_
  rintro e w1 ⟨rfl, hb1⟩
  obtain ⟨t1, t2, t3, t4, t5, t6, t7⟩ := esc_facts s.data.toList _ rfl
  generalize (⟨(Pl.escL s.data.toList).toArray⟩ : ByteArray) = t at *
  have t8 : t.size ≤ 200000 := by simp at t7; omega
  have HB1 : Hid (Below w'.heap.size w' w1) := hb1
  have T1 : Hid (Pl.tg t.data.toList = true) := t1
  have T2 : Hid (Pl.tg (t ++ (⟨#[35]⟩ : ByteArray)).data.toList = false) := t2
  have T3 : Hid (Pl.tg (t ++ (⟨#[32]⟩ : ByteArray)).data.toList = false) := t3
  have T4 : Hid (Pl.tg (t.extract 1 t.size).data.toList = false) := t4
  have T5 : Hid (Pl.tg (t.extract 0 1 ++ (⟨#[127]⟩ : ByteArray)).data.toList = false) := t5
  clear hb1 t1 t2 t3 t4 t5 t7 H0 H1 H2
  go_wp2_with fail
  refine (zzTarget_any _ _ _ (by unfold maxLen; omega) T1).mono ?_
  rintro e w2 ⟨rfl, rfl⟩
  go_wp2_with fail
  refine (zzTarget_any _ _ _ (small t _ 1 rfl t8 (by omega)) T2).mono ?_
  rintro e w2 ⟨rfl, rfl⟩
  go_wp2_with fail
  refine (zzTarget_any _ _ _ (small t _ 1 rfl t8 (by omega)) T3).mono ?_
  rintro e w2 ⟨rfl, rfl⟩
  go_wp2_with fail
  refine (zzTarget_any _ _ _ (by simp [maxLen]; omega) T4).mono ?_
  rintro e w2 ⟨rfl, rfl⟩
  go_wp2_with fail
  refine (zzTarget_any _ _ _ (small _ _ 1 rfl (by simp; omega) (by omega)) T5).mono ?_
  rintro e w2 ⟨rfl, rfl⟩
  go_wp2
  go_ret
  exact ⟨rfl, HB1.out⟩

theorem head_of (s : ByteArray) (hz : 0 < s.size) : (s.data.toList.head? == some 47) = ((s[0].toNat : Int) == 47) := by
  have h : s.data.toList.head? = some s[0] := by
    rw [List.head?_eq_getElem?, List.getElem?_eq_getElem (by simpa using hz)]
    rfl
  rw [h, Bool.eq_iff_iff]
  simp only [beq_iff_eq, Option.some.injEq]
  constructor
  · intro e; rw [e]; rfl
  · intro e
    apply UInt8.toNat_inj.1
    have : (47 : UInt8).toNat = 47 := rfl
    omega
theorem app_list (s : ByteArray) : ((⟨#[47]⟩ : ByteArray) ++ s).data.toList = [47] ++ s.data.toList := by
  rw [ByteArray.data_append, Array.toList_append]
theorem cut_head (s : ByteArray) (k : Nat) : (s.extract 0 k).data.toList = s.data.toList.take k := by
  rw [ByteArray.data_extract]; simp
theorem cut_tail (s : ByteArray) (k : Nat) : (s.extract k s.size).data.toList = s.data.toList.drop k := by
  rw [ByteArray.data_extract]
  simp only [Array.toList_extract, List.extract_eq_take_drop]
  rw [List.take_of_length_le]
  simp

/-- THE WALK: whatever the input. -/
theorem tg_walk (s : ByteArray) (k : Int) (w : World) (hs : s.size ≤ maxLen) :
    Calls Try.prog 4 #[.string s, .int .i64 k] w fun e w' => e = .returned (.bool true) ∧ Below w.heap.size w w' := by
  by_cases hb : 65536 < s.size
  · exact tg_big s k w hs hb
  · by_cases ho : k < 0 ∨ (s.size : Int) < k
    · exact tg_out s k w (by omega) ho
    · obtain ⟨k, rfl⟩ := Int.eq_ofNat_of_zero_le (show 0 ≤ k by omega)
      have hk : k ≤ s.size := by omega
      have hs' : s.size ≤ 65536 := by omega
      by_cases hz : 0 < s.size
      · have hh := head_of s hz
        have hcut : 0 < k → Pl.tg s.data.toList = (Pl.tg (s.extract 0 k).data.toList && Pl.tg ((⟨#[47]⟩ : ByteArray) ++ s.extract k s.size).data.toList) := by
          intro h
          rw [app_list, cut_head, cut_tail]
          exact Pl.tg_cut _ _ h
        cases h47 : ((s[0].toNat : Int) == 47) with
        | false =>
          rw [h47] at hh
          have h0 := Pl.tg_head _ hh
          by_cases hk0 : k = 0
          · exact tg_B0 s k w hs' hz h47 hk0 h0
          · refine tg_B1 s k w hs' hz h47 hk (by simp; omega) h0 ?_
            show Pl.tg (s.extract 0 k).data.toList = false
            rw [cut_head]
            apply Pl.tg_head
            cases hl : s.data.toList with
            | nil => simp
            | cons a l =>
              cases k with
              | zero => omega
              | succ k => rw [hl] at hh; exact hh
        | true =>
          rw [h47] at hh
          have h2 : Pl.tg ((⟨#[47]⟩ : ByteArray) ++ s).data.toList = Pl.tg s.data.toList := by rw [app_list]; exact Pl.tg_lead _ hh
          by_cases hk0 : k = 0
          · exact tg_C0 s k _ w hs' hz h47 hk0 rfl h2
          · have hc := hcut (by omega)
            cases h1 : Pl.tg (s.extract 0 k).data.toList with
            | true =>
              rw [h1, Bool.true_and] at hc
              exact tg_C1 s k _ w hs' hz h47 hk (by simp; omega) rfl h2 h1 hc.symm
            | false =>
              rw [h1, Bool.false_and] at hc
              exact tg_C2 s k w hs' hz h47 hk (by simp; omega) hc (h2.trans hc) h1
      · have hl : s.data.toList = [] := List.eq_nil_of_length_eq_zero (by rw [Array.length_toList]; show s.size = 0; omega)
        exact tg_A s k w (by omega) (by omega) (by unfold Hid; rw [hl]; rfl)
end Go.Proofs.Qxb6617427a
