/-
  THE CONTRACT of zzEscape.
-/
import Derived.Test.Qxb6617427aTgLeaf
namespace Go.Proofs.Qxb6617427a
open Go.RowKit

theorem esc_step1 (s : ByteArray) (k : Nat) (h : k < s.size) (ha : Pl.aln (s[k].toNat : Int) = true) : Pl.escL (s.data.toList.take (k + 1)) = Pl.escL (s.data.toList.take k) ++ [s[k]] := by
  rw [Pl.take_snoc s k h, Pl.escL_snoc]
  unfold Pl.esc1
  rw [if_pos ha]
theorem esc_step3 (s : ByteArray) (k : Nat) (h : k < s.size) (ha : Pl.aln (s[k].toNat : Int) = false) : Pl.escL (s.data.toList.take (k + 1)) = Pl.escL (s.data.toList.take k) ++ [37, Pl.dgU (s[k].toNat / 16) true, Pl.dgU s[k].toNat true] := by
  rw [Pl.take_snoc s k h, Pl.escL_snoc]
  unfold Pl.esc1
  rw [if_neg (by rw [ha]; simp)]

theorem own1 {w : World} {B n cap : Nat} {l l' : List UInt8} (c : UInt8) (hl : l' = l ++ [c]) (h : w.ownsRow B 5 1 (.slice (some ⟨B, 0, none⟩) (n + 1) cap) (n + 1) (cellsU l ++ [.int .u8 (c.toNat : Int)])) :
    w.ownsRow B 5 1 (.slice (some ⟨B, 0, none⟩) (n + 1) cap) (n + 1) (cellsU l') := by
  subst hl
  unfold cellsU at *
  rw [List.map_append]
  exact h
theorem own3 {w : World} {B n cap : Nat} {l l' : List UInt8} (x : Nat) (hl : l' = l ++ [37, Pl.dgU (x / 16) true, Pl.dgU x true])
    (h : w.ownsRow B 5 1 (.slice (some ⟨B, 0, none⟩) (n + 1 + 1 + 1) cap) (n + 1 + 1 + 1) (cellsU l ++ [.int .u8 37, .int .u8 (Pl.dg ((x : Int) / 16) true), .int .u8 (Pl.dg (x : Int) true)])) :
    w.ownsRow B 5 1 (.slice (some ⟨B, 0, none⟩) (n + 1 + 1 + 1) cap) (n + 1 + 1 + 1) (cellsU l') := by
  subst hl
  unfold cellsU at *
  rw [List.map_append]
  simp only [List.map_cons, List.map_nil, Pl.dgU_val]
  exact h

set_option maxRecDepth 100000 in
set_option maxHeartbeats 400000 in
theorem esc_any (s : ByteArray) (w : World) (hs : s.size ≤ 1048576) :
    Calls Try.prog 11 #[.string s] w fun e w' => e = .returned (.string ⟨(Pl.escL s.data.toList).toArray⟩) ∧ Below w.heap.size w w' := by
  obtain ⟨i0, hi, hz0, hz1, hz2⟩ := info_parts info5
  go_enter Try.func11, Try.ntmps11
  go_wp2_with (at_make; refine wpList_make_own _ rfl _ _ 26 rfl w.heap.size 5 i0 (.int .u8 0) 1 Try.underlying26 hi hz0 hz1 _ _ _ (1 + 3 * s.size) rfl rfl (by omega) (by rw [hz2]; omega) (by unfold maxLen; omega) (Nat.le_refl _) ?_)
  intro w1 hown hgrow
  have HX1 : Hid (Below w.heap.size w w1) := (Below.refl _ _).grown hgrow (Nat.le_refl _) (fun _ h => by cases h)
  clear hgrow
  go_wp2_with (at_builtin; refine wpList_append_fits _ rfl (.tmp 11) (.tmp 12) 26 rfl w.heap.size 5 i0 1 Try.underlying26 hi hz1 w.heap.size 0 (1 + 3 * s.size) _ rfl (hown.alloc _) ⟨w1.heap.size, 0, none⟩ 1 1 [.int .u8 47] rfl rfl (cell_one_new _ _ _) (by simp [Value.oneCell']) (by omega) ?_)
  intro w2 hown2 hgrow2
  have HX2 : Hid (Below w.heap.size w w2) := below_app HX1.out (Nat.le_refl _) hgrow2 (Nat.le_refl _)
  clear hgrow2 hown HX1
  go_wp2
  go_loopw [3, 4, 5] (fun v i _ wr => ∃ k n : Nat, ∃ l : List UInt8, k ≤ s.size ∧ n ≤ 1 + 3 * k ∧ i = .int .i64 k ∧ v = .slice (some ⟨w.heap.size, 0, none⟩) n (1 + 3 * s.size) ∧ wr.ownsRow w.heap.size 5 1 v n (cellsU l) ∧ Hid (l = Pl.escL (s.data.toList.take k)) ∧ Below w.heap.size w wr) (fun _ i _ _ => s.size - (intOf i).toNat)
  case atStart => exact ⟨0, 1, [47], Nat.zero_le _, by omega, rfl, rfl, hown2, rfl, HX2.out⟩
  case round =>
    obtain ⟨k, n, l, hk, hn, rfl, rfl, hown, HL, hnx⟩ := hrel
    clear hown2 HX2
    by_cases hlt : k < s.size
    · have HB : Hid ((s[k].toNat : Int) < 256) := Pl.u8lt s[k]
      cases ha : Pl.aln (s[k].toNat : Int) with
      | true =>
        have HA : Hid (Pl.aln (s[k].toNat : Int) = true) := ha
        clear ha
        go_wp2_with fail
        refine (aln_any _ _ (by have := HB.out; omega) (by have := HB.out; omega)).mono ?_
        rintro e w2 ⟨rfl, rfl⟩
        rw [HA.out]
        go_wp2_with (at_builtin; refine wpList_append_fits _ rfl (.tmp 25) (.tmp 27) 26 rfl w.heap.size 5 i0 1 Try.underlying26 hi hz1 w.heap.size n (1 + 3 * s.size) _ rfl (hown.alloc _) ⟨w2.heap.size, 0, none⟩ 1 1 [.int .u8 (s[k].toNat : Int)] rfl rfl (cell_one_new _ _ _) (by simp [Value.oneCell']) (by omega) ?_)
        intro w3 hown3 hgrow3
        have HX3 : Hid (Below w.heap.size w w3) := below_app hnx (Nat.le_refl _) hgrow3 (Nat.le_refl _)
        have HE := esc_step1 s k hlt HA.out
        rw [← HL.out] at HE
        have HO := own1 _ HE hown3
        have HE2 : Hid (Pl.escL (s.data.toList.take (k + 1)) = l ++ [s[k]]) := HE
        clear hgrow3 hown hown3 hnx HE
        go_wp2
        go_roundw
        case rel => exact ⟨k + 1, n + 1, _, by omega, by omega, by go_num, rfl, HO, rfl, HX3.out⟩
        case measure => simp [intOf]; omega
      | false =>
        have HA : Hid (Pl.aln (s[k].toNat : Int) = false) := ha
        clear ha
        go_wp2_with fail
        refine (aln_any _ _ (by have := HB.out; omega) (by have := HB.out; omega)).mono ?_
        rintro e w2 ⟨rfl, rfl⟩
        rw [HA.out]
        go_wp2_with (at_builtin; refine wpList_append_fits _ rfl (.tmp 29) (.tmp 30) 26 rfl w.heap.size 5 i0 1 Try.underlying26 hi hz1 w.heap.size n (1 + 3 * s.size) _ rfl (hown.alloc _) ⟨w2.heap.size, 0, none⟩ 1 1 [.int .u8 37] rfl rfl (cell_one_new _ _ _) (by simp [Value.oneCell']) (by omega) ?_)
        intro w3 hown3 hgrow3
        have HX3 : Hid (Below w.heap.size w w3) := below_app hnx (Nat.le_refl _) hgrow3 (Nat.le_refl _)
        clear hgrow3 hown hnx
        go_wp2_with fail
        refine (dig_any _ _ _ (by have := HB.out; omega) (by have := HB.out; omega)).mono ?_
        rintro e w4 ⟨rfl, rfl⟩
        go_wp2_with (at_builtin; refine wpList_append_fits _ rfl (.tmp 32) (.tmp 36) 26 rfl w.heap.size 5 i0 1 Try.underlying26 hi hz1 w.heap.size (n + 1) (1 + 3 * s.size) _ rfl (hown3.alloc _) ⟨w4.heap.size, 0, none⟩ 1 1 [.int .u8 (Pl.dg ((s[k].toNat : Int) / 16) true)] rfl rfl (cell_one_new _ _ _) (by simp [Value.oneCell']) (by omega) ?_)
        intro w5 hown5 hgrow5
        have HX5 : Hid (Below w.heap.size w w5) := below_app HX3.out (Nat.le_refl _) hgrow5 (Nat.le_refl _)
        clear hgrow5 hown3 HX3
        go_wp2_with fail
        refine (dig_any _ _ _ (by have := HB.out; omega) (by have := HB.out; omega)).mono ?_
        rintro e w6 ⟨rfl, rfl⟩
        go_wp2_with (at_builtin; refine wpList_append_fits _ rfl (.tmp 38) (.tmp 41) 26 rfl w.heap.size 5 i0 1 Try.underlying26 hi hz1 w.heap.size (n + 1 + 1) (1 + 3 * s.size) _ rfl (hown5.alloc _) ⟨w6.heap.size, 0, none⟩ 1 1 [.int .u8 (Pl.dg (s[k].toNat : Int) true)] rfl rfl (cell_one_new _ _ _) (by simp [Value.oneCell']) (by omega) ?_)
        intro w7 hown7 hgrow7
        have HX7 : Hid (Below w.heap.size w w7) := below_app HX5.out (Nat.le_refl _) hgrow7 (Nat.le_refl _)
        have HE := esc_step3 s k hlt HA.out
        rw [← HL.out] at HE
        have HO := own3 _ HE hown7
        clear hgrow7 hown5 HX5 hown7 HE
        go_wp2
        go_roundw
        case rel => exact ⟨k + 1, n + 1 + 1 + 1, _, by omega, by omega, by go_num, rfl, HO, rfl, HX7.out⟩
        case measure => simp [intOf]; omega
    · have hlen : l.length = n := by
        have := hown.1
        unfold cellsU at this
        simpa using this
      have hconv := conv_back l hlen hown
      have HX : Hid (Below w.heap.size w wr) := hnx
      have HF : Hid (l = Pl.escL s.data.toList) := by
        have := HL.out
        rw [List.take_of_length_le (by simp; omega)] at this
        exact this
      clear hown hnx HL hlen
      go_wp2
      go_ret
      refine ⟨?_, HX.out⟩
      rw [← HF.out]
      rfl
end Go.Proofs.Qxb6617427a
