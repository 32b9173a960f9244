/-
  THE CONTRACTS of zzBytes (two), trailingGroup, ZZtrailingGroup.
-/
import Derived.Test.Qxb6617436aRows
import Derived.Test.Qxb6617436aPlain
import Derived.WalkKit
import Derived.WalkLawsBesides
import Derived.WalkSpells
namespace Go.Proofs.Qxb6617436a
open Go.RowKit

theorem ret_int {k : IntKind} {a b : Int} (h : a = b) : Ending.returned (.int k a) = .returned (.int k b) := by rw [h]
theorem ret_bool {a b : Bool} (h : a = b) : Ending.returned (.bool a) = .returned (.bool b) := by rw [h]
theorem u8lt (c : UInt8) : (c.toNat : Int) < 256 := by have := c.toNat_lt; omega

theorem bytes1_any (s : ByteArray) (w : World) (hs : s.size ≤ maxLen) :
    Calls Try.prog 7 #[.string s] w fun e w' => e = .returned (.bool (decide (s.size ≤ 1048576))) ∧ w' = w := by
  unfold maxLen at hs
  go_enter Try.func7, Try.ntmps7
  go_wp2
  all_goals
    go_ret
    exact ⟨ret_bool (by simp; omega), rfl⟩

theorem bytes3_yes (a b t : ByteArray) (w : World) (h : a.size + b.size + t.size ≤ 1048576) :
    Calls Try.prog 10 #[.string a, .string b, .string t] w fun e w' => e = .returned (.bool true) ∧ w' = w := by
  have h1 : (a.size : Int) ≤ 1048576 := by omega
  have h2 : (b.size : Int) ≤ 1048576 := by omega
  have h3 : (t.size : Int) ≤ 1048576 := by omega
  have h4 : (a.size : Int) + (b.size : Int) ≤ 1048576 := by omega
  have h5 : (a.size : Int) + (b.size : Int) + (t.size : Int) ≤ 1048576 := by omega
  go_enter Try.func10, Try.ntmps10
  go_wp2
  all_goals
    go_ret
    exact ⟨rfl, rfl⟩

theorem bytes3_no (a b t : ByteArray) (w : World) (ha : a.size ≤ maxLen) (hb : b.size ≤ maxLen) (ht : t.size ≤ maxLen) (h : ¬ a.size + b.size + t.size ≤ 1048576) :
    Calls Try.prog 10 #[.string a, .string b, .string t] w fun e w' => e = .returned (.bool false) ∧ w' = w := by
  unfold maxLen at ha hb ht
  go_enter Try.func10, Try.ntmps10
  go_wp2
  all_goals
    go_ret
    exact ⟨rfl, rfl⟩

theorem u8ne (c n : UInt8) (h : c ≠ n) : ((c.toNat : Int) == (n.toNat : Int)) = false := by
  simp only [beq_eq_false_iff_ne, ne_eq]
  intro e
  exact h (UInt8.toNat_inj.1 (by omega))
theorem four (c : UInt8) : c = 92 ∨ c = 40 ∨ c = 41 ∨ (c ≠ 92 ∧ c ≠ 40 ∧ c ≠ 41) := by
  by_cases h1 : c = 92
  · exact .inl h1
  · by_cases h2 : c = 40
    · exact .inr (.inl h2)
    · by_cases h3 : c = 41
      · exact .inr (.inr (.inl h3))
      · exact .inr (.inr (.inr ⟨h1, h2, h3⟩))
theorem hide {p : Prop} (h : p) : Hid p := h
theorem at_list (s : ByteArray) (k : Nat) (h : k < s.size) : s.data.toList[k]'(by simpa using h) = s[k] := rfl
theorem len_list (s : ByteArray) : s.data.toList.length = s.size := by simp

set_option maxRecDepth 100000 in
set_option maxHeartbeats 1600000 in
theorem trail_any (s : ByteArray) (w : World) (hs : s.size ≤ 4194304) :
    Calls Try.prog 17 #[.string s] w fun e w' => e = .returned (.int .i64 (Pl.tgo s.data.toList false 0 (-1) 0)) ∧ w' = w := by
  go_enter Try.func17, Try.ntmps17
  go_wp2
  go_loop [3, 4, 5] (fun a b i => ∃ (k d : Nat) (st : Int), k ≤ s.size + 1 ∧ d ≤ k ∧ a = .int .i64 st ∧ b = .int .i64 d ∧ i = .int .i64 k ∧ Hid (Pl.tgo (s.data.toList.drop k) false k st d = Pl.tgo s.data.toList false 0 (-1) 0)) (fun _ _ i => s.size + 1 - (intOf i).toNat)
  case atStart => exact ⟨0, 0, -1, Nat.zero_le _, Nat.zero_le _, rfl, rfl, rfl, rfl⟩
  case round =>
    obtain ⟨k, d, st, hk, hd, rfl, rfl, rfl, HR⟩ := hrel
    by_cases hlt : k < s.size
    · have hll : k < s.data.toList.length := by rw [len_list]; exact hlt
      rcases four s[k] with h | h | h | h
      · have HC : Hid (s.data.toList[k] = 92) := h
        have b1 : ((s[k].toNat : Int) == 92) = true := by rw [h]; rfl
        clear h
        go_wp2
        go_round
        case rel => exact ⟨k + 1 + 1, d, st, by omega, by omega, rfl, rfl, by go_num, (Pl.tgo_92 _ k st d hll HC.out).symm.trans HR.out⟩
        case measure => simp [intOf]; omega
      · have HC : Hid (s.data.toList[k] = 40) := h
        have b1 : ((s[k].toNat : Int) == 92) = false := by rw [h]; rfl
        have b2 : ((s[k].toNat : Int) == 40) = true := by rw [h]; rfl
        clear h
        have HT := hide ((Pl.tgo_40 _ k st d hll HC.out).symm.trans HR.out)
        by_cases hd0 : d = 0
        · have hz : ((d : Int) == 0) = true := by simp [hd0]
          have HT2 : Hid (Pl.tgo (s.data.toList.drop (k + 1)) false (k + 1) k (d + 1) = Pl.tgo s.data.toList false 0 (-1) 0) := by
            have := HT.out; rw [if_pos hd0] at this; exact this
          clear HT HR hd0
          go_wp2
          go_round
          case rel => exact ⟨k + 1, d + 1, k, by omega, by omega, rfl, by go_num, by go_num, HT2⟩
          case measure => simp [intOf]; omega
        · have hz : ((d : Int) == 0) = false := by simp [hd0]
          have HT2 : Hid (Pl.tgo (s.data.toList.drop (k + 1)) false (k + 1) st (d + 1) = Pl.tgo s.data.toList false 0 (-1) 0) := by
            have := HT.out; rw [if_neg hd0] at this; exact this
          clear HT HR hd0
          go_wp2
          go_round
          case rel => exact ⟨k + 1, d + 1, st, by omega, by omega, rfl, by go_num, by go_num, HT2⟩
          case measure => simp [intOf]; omega
      · have HC : Hid (s.data.toList[k] = 41) := h
        have b1 : ((s[k].toNat : Int) == 92) = false := by rw [h]; rfl
        have b2 : ((s[k].toNat : Int) == 40) = false := by rw [h]; rfl
        have b3 : ((s[k].toNat : Int) == 41) = true := by rw [h]; rfl
        clear h
        have HT := hide ((Pl.tgo_41 _ k st d hll HC.out).symm.trans HR.out)
        by_cases hd0 : d = 0
        · have hz : ((d : Int) == 0) = true := by simp [hd0]
          have HT2 : Hid (-1 = Pl.tgo s.data.toList false 0 (-1) 0) := by
            have := HT.out; rw [if_pos hd0] at this; exact this
          clear HT HR hd0
          go_wp2
          go_ret
          exact ⟨ret_int HT2.out, rfl⟩
        · have hz : ((d : Int) == 0) = false := by simp [hd0]
          have hd1 : 1 ≤ d := by omega
          by_cases hone : d = 1
          · have hy : ((d : Int) - 1 == 0) = true := by simp [hone]
            by_cases hend : k + 1 = s.size
            · have hx : ((k : Int) == (s.size : Int) - 1) = true := by simp; omega
              have HT2 : Hid (st = Pl.tgo s.data.toList false 0 (-1) 0) := by
                have := HT.out; rw [if_neg hd0, if_pos ⟨hone, by rw [len_list]; exact hend⟩] at this; exact this
              clear HT HR hd0 hone hend
              go_wp2
              go_ret
              exact ⟨ret_int HT2.out, rfl⟩
            · have hx : ((k : Int) == (s.size : Int) - 1) = false := by simp; omega
              have HT2 : Hid (Pl.tgo (s.data.toList.drop (k + 1)) false (k + 1) st (d - 1) = Pl.tgo s.data.toList false 0 (-1) 0) := by
                have := HT.out; rw [if_neg hd0, if_neg (by rw [len_list]; omega)] at this; exact this
              clear HT HR hd0 hone hend
              go_wp2
              go_round
              case rel => exact ⟨k + 1, d - 1, st, by omega, by omega, rfl, by go_num, by go_num, HT2⟩
              case measure => simp [intOf]; omega
          · have hy : ((d : Int) - 1 == 0) = false := by simp; omega
            have HT2 : Hid (Pl.tgo (s.data.toList.drop (k + 1)) false (k + 1) st (d - 1) = Pl.tgo s.data.toList false 0 (-1) 0) := by
              have := HT.out; rw [if_neg hd0, if_neg (by omega)] at this; exact this
            clear HT HR hd0 hone
            go_wp2
            go_round
            case rel => exact ⟨k + 1, d - 1, st, by omega, by omega, rfl, by go_num, by go_num, HT2⟩
            case measure => simp [intOf]; omega
      · have HC : Hid (s.data.toList[k] ≠ 92 ∧ s.data.toList[k] ≠ 40 ∧ s.data.toList[k] ≠ 41) := h
        have b1 : ((s[k].toNat : Int) == 92) = false := u8ne _ 92 h.1
        have b2 : ((s[k].toNat : Int) == 40) = false := u8ne _ 40 h.2.1
        have b3 : ((s[k].toNat : Int) == 41) = false := u8ne _ 41 h.2.2
        clear h
        go_wp2
        go_round
        case rel => exact ⟨k + 1, d, st, by omega, by omega, rfl, rfl, by go_num, (Pl.tgo_else _ k st d hll HC.out.1 HC.out.2.1 HC.out.2.2).symm.trans HR.out⟩
        case measure => simp [intOf]; omega
    · have HE := hide ((Pl.tgo_end s.data.toList k st d (by rw [len_list]; exact hlt)).symm.trans HR.out)
      clear HR
      go_wp2
      go_ret
      exact ⟨ret_int HE.out, rfl⟩

theorem zzTrail_any (s : ByteArray) (r : Int) (w : World) (hs : s.size ≤ 4194304) (hr : Hid (Pl.tgo s.data.toList false 0 (-1) 0 = r)) :
    Calls Try.prog 8 #[.string s] w fun e w' => e = .returned (.int .i64 r) ∧ w' = w := by
  go_enter Try.func8, Try.ntmps8
  go_wp2_with fail
  refine (trail_any _ _ hs).mono ?_
  rintro e w' ⟨rfl, rfl⟩
  rw [hr.out]
  go_wp2
  go_ret
  exact ⟨rfl, rfl⟩
end Go.Proofs.Qxb6617436a
