/-
  THE CONTRACT of tgEscape.
-/
import Derived.Test.Qxb6617436aLeaf
import Derived.Laws.IdiomStrings
namespace Go.Proofs.Qxb6617436a
open Go.RowKit

theorem info5 : (Try.prog.info? 5).map (fun i => (i.zero, i.size, i.bytes)) = some (some (.int .u8 0), 1, 1) := by kernel_rfl
/-- The bytes as cells. -/
def cellsU (l : List UInt8) : List Value := l.map fun c => .int .u8 (c.toNat : Int)
theorem below_app {B : Nat} {w wr w3 : World} {o : Obj} {g : Nat} (h : Below B w wr) (hB : B ≤ w.heap.size) (hg : (wr.alloc o).grownBy w3 (some g)) (hgB : B ≤ g) : Below B w w3 :=
  (h.alloc (by have := h.size; omega) o).grown hg (by simp; have := h.size; omega) (fun _ e => by cases e; exact hgB)
/-- What is owned, read back as a string. -/
theorem conv_back {w : World} {B n cap : Nat} (l : List UInt8) (hn : l.length = n) (h : w.ownsRow B 5 1 (.slice (some ⟨B, 0, none⟩) n cap) n (cellsU l)) :
    (convert 27 9 (.slice (some ⟨B, 0, none⟩) n cap)).run Try.prog w = .ok (.string ⟨l.toArray⟩) w := by
  subst hn
  refine run_convert_bytes_back w 27 9 5 ⟨B, 0, none⟩ cap l Try.underlying27 Try.underlying5 Try.underlying9 fun j hj => ?_
  rw [Addr.add_lit, Nat.zero_add, h.cellAt j (by omega)]
  unfold cellsU
  simp [hj]
theorem take_snoc (s : ByteArray) (k : Nat) (h : k < s.size) : s.data.toList.take (k + 1) = s.data.toList.take k ++ [s[k]] := by
  rw [List.take_succ_eq_append_getElem (by simpa using h)]; rfl
theorem esc_step1 (s : ByteArray) (k : Nat) (h : k < s.size) (ha : Pl.sp s[k] = false) : Pl.escL (s.data.toList.take (k + 1)) = Pl.escL (s.data.toList.take k) ++ [s[k]] := by
  rw [take_snoc s k h, Pl.escL_snoc]
  unfold Pl.esc1
  rw [if_neg (by rw [ha]; simp)]
theorem esc_step2 (s : ByteArray) (k : Nat) (h : k < s.size) (ha : Pl.sp s[k] = true) : Pl.escL (s.data.toList.take (k + 1)) = Pl.escL (s.data.toList.take k) ++ [92, s[k]] := by
  rw [take_snoc s k h, Pl.escL_snoc]
  unfold Pl.esc1
  rw [if_pos ha]
theorem own1 {w : World} {B n cap : Nat} {l l' : List UInt8} (c : UInt8) (hl : l' = l ++ [c]) (h : w.ownsRow B 5 1 (.slice (some ⟨B, 0, none⟩) (n + 1) cap) (n + 1) (cellsU l ++ [.int .u8 (c.toNat : Int)])) :
    w.ownsRow B 5 1 (.slice (some ⟨B, 0, none⟩) (n + 1) cap) (n + 1) (cellsU l') := by
  subst hl
  unfold cellsU at *
  rw [List.map_append]
  exact h
theorem own2 {w : World} {B n cap : Nat} {l l' : List UInt8} (c : UInt8) (hl : l' = l ++ [92, c]) (h : w.ownsRow B 5 1 (.slice (some ⟨B, 0, none⟩) (n + 1 + 1) cap) (n + 1 + 1) (cellsU l ++ [.int .u8 92, .int .u8 (c.toNat : Int)])) :
    w.ownsRow B 5 1 (.slice (some ⟨B, 0, none⟩) (n + 1 + 1) cap) (n + 1 + 1) (cellsU l') := by
  subst hl
  unfold cellsU at *
  rw [List.map_append]
  exact h

set_option maxRecDepth 100000 in
set_option maxHeartbeats 800000 in
theorem esc_any (s : ByteArray) (w : World) (hs : s.size ≤ 1048576) :
    Calls Try.prog 11 #[.string s] w fun e w' => e = .returned (.string ⟨(Pl.escL s.data.toList).toArray⟩) ∧ Below w.heap.size w w' := by
  obtain ⟨i0, hi, hz0, hz1, hz2⟩ := info_parts info5
  go_enter Try.func11, Try.ntmps11
  go_wp2_with (at_make; refine wpList_make_own _ rfl _ _ 27 rfl w.heap.size 5 i0 (.int .u8 0) 1 Try.underlying27 hi hz0 hz1 _ _ _ (2 * s.size) rfl rfl (by omega) (by rw [hz2]; omega) (by unfold maxLen; omega) (Nat.le_refl _) ?_)
  intro w1 hown1 hgrow
  have HX1 : Hid (Below w.heap.size w w1) := (Below.refl _ _).grown hgrow (Nat.le_refl _) (fun _ h => by cases h)
  clear hgrow
  go_wp2
  go_loopw [3, 4, 5] (fun v i _ wr => ∃ k n : Nat, ∃ l : List UInt8, k ≤ s.size ∧ n ≤ 2 * k ∧ i = .int .i64 k ∧ v = .slice (some ⟨w.heap.size, 0, none⟩) n (2 * s.size) ∧ wr.ownsRow w.heap.size 5 1 v n (cellsU l) ∧ Hid (l = Pl.escL (s.data.toList.take k)) ∧ Below w.heap.size w wr) (fun _ i _ _ => s.size - (intOf i).toNat)
  case atStart => exact ⟨0, 0, [], Nat.zero_le _, by omega, rfl, rfl, hown1, rfl, HX1.out⟩
  case round =>
    obtain ⟨k, n, l, hk, hn, rfl, rfl, hown, HL, hnx⟩ := hrel
    clear hown1 HX1
    by_cases hlt : k < s.size
    · rcases four s[k] with h | h | h | h
      · have b1 : ((s[k].toNat : Int) == 40) = false := by rw [h]; rfl
        have b2 : ((s[k].toNat : Int) == 41) = false := by rw [h]; rfl
        have b3 : ((s[k].toNat : Int) == 92) = true := by rw [h]; rfl
        have HA : Hid (Pl.sp s[k] = true) := by unfold Hid; rw [h]; rfl
        clear h
        go_wp2_with (at_builtin; refine wpList_append_fits _ rfl (.tmp 29) (.tmp 30) 27 rfl w.heap.size 5 i0 1 Try.underlying27 hi hz1 w.heap.size n (2 * s.size) _ rfl (hown.alloc _) ⟨wr.heap.size, 0, none⟩ 1 1 [.int .u8 92] rfl rfl (cell_one_new _ _ _) (by simp [Value.oneCell']) (by omega) ?_)
        intro w3 hown3 hgrow3
        have HX3 := hide (below_app hnx (Nat.le_refl _) hgrow3 (Nat.le_refl _))
        clear hgrow3 hown hnx
        go_wp2_with (at_builtin; refine wpList_append_fits _ rfl (.tmp 32) (.tmp 34) 27 rfl w.heap.size 5 i0 1 Try.underlying27 hi hz1 w.heap.size (n + 1) (2 * s.size) _ rfl (hown3.alloc _) ⟨w3.heap.size, 0, none⟩ 1 1 [.int .u8 (s[k].toNat : Int)] rfl rfl (cell_one_new _ _ _) (by simp [Value.oneCell']) (by omega) ?_)
        intro w5 hown5 hgrow5
        have HX5 := hide (below_app HX3.out (Nat.le_refl _) hgrow5 (Nat.le_refl _))
        have HE := esc_step2 s k hlt HA.out
        rw [← HL.out] at HE
        have HO := hide (own2 _ HE hown5)
        clear hgrow5 hown3 HX3 hown5 HE
        go_wp2
        go_roundw
        case rel => exact ⟨k + 1, n + 1 + 1, _, by omega, by omega, by go_num, rfl, HO.out, rfl, HX5.out⟩
        case measure => simp [intOf]; omega
      · have b1 : ((s[k].toNat : Int) == 40) = true := by rw [h]; rfl
        have HA : Hid (Pl.sp s[k] = true) := by unfold Hid; rw [h]; rfl
        clear h
        go_wp2_with (at_builtin; refine wpList_append_fits _ rfl (.tmp 29) (.tmp 30) 27 rfl w.heap.size 5 i0 1 Try.underlying27 hi hz1 w.heap.size n (2 * s.size) _ rfl (hown.alloc _) ⟨wr.heap.size, 0, none⟩ 1 1 [.int .u8 92] rfl rfl (cell_one_new _ _ _) (by simp [Value.oneCell']) (by omega) ?_)
        intro w3 hown3 hgrow3
        have HX3 := hide (below_app hnx (Nat.le_refl _) hgrow3 (Nat.le_refl _))
        clear hgrow3 hown hnx
        go_wp2_with (at_builtin; refine wpList_append_fits _ rfl (.tmp 32) (.tmp 34) 27 rfl w.heap.size 5 i0 1 Try.underlying27 hi hz1 w.heap.size (n + 1) (2 * s.size) _ rfl (hown3.alloc _) ⟨w3.heap.size, 0, none⟩ 1 1 [.int .u8 (s[k].toNat : Int)] rfl rfl (cell_one_new _ _ _) (by simp [Value.oneCell']) (by omega) ?_)
        intro w5 hown5 hgrow5
        have HX5 := hide (below_app HX3.out (Nat.le_refl _) hgrow5 (Nat.le_refl _))
        have HE := esc_step2 s k hlt HA.out
        rw [← HL.out] at HE
        have HO := hide (own2 _ HE hown5)
        clear hgrow5 hown3 HX3 hown5 HE
        go_wp2
        go_roundw
        case rel => exact ⟨k + 1, n + 1 + 1, _, by omega, by omega, by go_num, rfl, HO.out, rfl, HX5.out⟩
        case measure => simp [intOf]; omega
      · have b1 : ((s[k].toNat : Int) == 40) = false := by rw [h]; rfl
        have b2 : ((s[k].toNat : Int) == 41) = true := by rw [h]; rfl
        have HA : Hid (Pl.sp s[k] = true) := by unfold Hid; rw [h]; rfl
        clear h
        go_wp2_with (at_builtin; refine wpList_append_fits _ rfl (.tmp 29) (.tmp 30) 27 rfl w.heap.size 5 i0 1 Try.underlying27 hi hz1 w.heap.size n (2 * s.size) _ rfl (hown.alloc _) ⟨wr.heap.size, 0, none⟩ 1 1 [.int .u8 92] rfl rfl (cell_one_new _ _ _) (by simp [Value.oneCell']) (by omega) ?_)
        intro w3 hown3 hgrow3
        have HX3 := hide (below_app hnx (Nat.le_refl _) hgrow3 (Nat.le_refl _))
        clear hgrow3 hown hnx
        go_wp2_with (at_builtin; refine wpList_append_fits _ rfl (.tmp 32) (.tmp 34) 27 rfl w.heap.size 5 i0 1 Try.underlying27 hi hz1 w.heap.size (n + 1) (2 * s.size) _ rfl (hown3.alloc _) ⟨w3.heap.size, 0, none⟩ 1 1 [.int .u8 (s[k].toNat : Int)] rfl rfl (cell_one_new _ _ _) (by simp [Value.oneCell']) (by omega) ?_)
        intro w5 hown5 hgrow5
        have HX5 := hide (below_app HX3.out (Nat.le_refl _) hgrow5 (Nat.le_refl _))
        have HE := esc_step2 s k hlt HA.out
        rw [← HL.out] at HE
        have HO := hide (own2 _ HE hown5)
        clear hgrow5 hown3 HX3 hown5 HE
        go_wp2
        go_roundw
        case rel => exact ⟨k + 1, n + 1 + 1, _, by omega, by omega, by go_num, rfl, HO.out, rfl, HX5.out⟩
        case measure => simp [intOf]; omega
      · have b1 : ((s[k].toNat : Int) == 40) = false := u8ne _ 40 h.2.1
        have b2 : ((s[k].toNat : Int) == 41) = false := u8ne _ 41 h.2.2
        have b3 : ((s[k].toNat : Int) == 92) = false := u8ne _ 92 h.1
        have HA : Hid (Pl.sp s[k] = false) := by unfold Hid Pl.sp; simp [h]
        clear h
        go_wp2_with (at_builtin; refine wpList_append_fits _ rfl (.tmp 32) (.tmp 34) 27 rfl w.heap.size 5 i0 1 Try.underlying27 hi hz1 w.heap.size n (2 * s.size) _ rfl (hown.alloc _) ⟨wr.heap.size, 0, none⟩ 1 1 [.int .u8 (s[k].toNat : Int)] rfl rfl (cell_one_new _ _ _) (by simp [Value.oneCell']) (by omega) ?_)
        intro w3 hown3 hgrow3
        have HX3 := hide (below_app hnx (Nat.le_refl _) hgrow3 (Nat.le_refl _))
        have HE := esc_step1 s k hlt HA.out
        rw [← HL.out] at HE
        have HO := hide (own1 _ HE hown3)
        clear hgrow3 hown hown3 hnx HE
        go_wp2
        go_roundw
        case rel => exact ⟨k + 1, n + 1, _, by omega, by omega, by go_num, rfl, HO.out, rfl, HX3.out⟩
        case measure => simp [intOf]; omega
    · have hlen : l.length = n := by
        have := hown.1
        unfold cellsU at this
        simpa using this
      have hconv := conv_back l hlen hown
      have HX : Hid (Below w.heap.size w wr) := hnx
      have HF : Hid (l = Pl.escL s.data.toList) := by
        have := HL.out
        rw [List.take_of_length_le (by simp; omega)] at this
        exact this
      clear hown hnx HL hlen
      go_wp2
      go_ret
      refine ⟨?_, HX.out⟩
      rw [← HF.out]
      rfl
end Go.Proofs.Qxb6617436a
