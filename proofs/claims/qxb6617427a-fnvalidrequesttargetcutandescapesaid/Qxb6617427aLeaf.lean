/-
  THE CONTRACTS of the leaf functions: lowerASCII, isHex, ZZisHex, zzDigit, zzBytes.
-/
import Derived.Test.Qxb6617427aRows
import Derived.Test.Qxb6617427aPlain
import Derived.WalkKit
import Derived.WalkLawsBesides
import Derived.WalkSpells
namespace Go.Proofs.Qxb6617427a
open Go.RowKit

theorem ret_int {k : IntKind} {a b : Int} (h : a = b) : Ending.returned (.int k a) = .returned (.int k b) := by rw [h]
theorem ret_bool {a b : Bool} (h : a = b) : Ending.returned (.bool a) = .returned (.bool b) := by rw [h]

theorem low_any (x : Int) (w : World) (h0 : 0 ≤ x) (h1 : x ≤ 255) :
    Calls Try.prog 16 #[.int .u8 x] w fun e w' => e = .returned (.int .u8 (Pl.low x)) ∧ w' = w := by
  go_enter Try.func16, Try.ntmps16
  go_wp2
  all_goals
    go_ret
    exact ⟨ret_int (by unfold Pl.low; split <;> omega), rfl⟩

theorem dig_any (x : Int) (up : Bool) (w : World) (h0 : 0 ≤ x) (h1 : x ≤ 255) :
    Calls Try.prog 13 #[.int .u8 x, .bool up] w fun e w' => e = .returned (.int .u8 (Pl.dg x up)) ∧ w' = w := by
  go_enter Try.func13, Try.ntmps13
  go_wp2
  all_goals
    go_ret
    exact ⟨ret_int (by unfold Pl.dg; simp only [*]; split <;> (try split) <;> (first | omega | simp_all)), rfl⟩

theorem bytes_any (s : ByteArray) (n k : Int) (w : World) (hs : s.size ≤ maxLen) :
    Calls Try.prog 5 #[.string s, .int .i64 n, .int .i64 k] w fun e w' => e = .returned (.bool (decide (s.size ≤ 1048576))) ∧ w' = w := by
  unfold maxLen at hs
  go_enter Try.func5, Try.ntmps5
  go_wp2
  all_goals
    go_ret
    exact ⟨ret_bool (by simp; omega), rfl⟩

set_option maxRecDepth 100000 in
theorem isHex_any (s : ByteArray) (n : Int) (w : World) (hs : s.size ≤ maxLen) :
    Calls Try.prog 12 #[.string s, .int .i64 n] w fun e w' => e = .returned (.bool (Pl.isHexB s n)) ∧ w' = w := by
  unfold maxLen at hs
  by_cases hn : (s.size : Int) = n
  · have hb : ((s.size : Int) != n) = false := by simp [hn]
    have HN : Hid ((s.size : Int) = n) := hn
    clear hn
    go_enter Try.func12, Try.ntmps12
    go_wp2
    go_loop [5] (fun i => ∃ k : Nat, k ≤ s.size ∧ i = .int .i64 k ∧ Pl.hexL (s.data.toList.take k) = true) (fun i => s.size - (intOf i).toNat)
    case atStart => exact ⟨0, Nat.zero_le _, rfl, rfl⟩
    case round =>
      obtain ⟨k, hk, rfl, hall⟩ := hrel
      have HA : Hid (Pl.hexL (s.data.toList.take k) = true) := hall
      clear hall
      by_cases hlt : k < s.size
      · have HB : Hid ((s[k].toNat : Int) < 256) := Pl.u8lt s[k]
        go_wp2_with fail
        refine (low_any _ _ (by omega) (by have := HB.out; omega)).mono ?_
        rintro e w' ⟨rfl, rfl⟩
        generalize hy : Pl.low (s[k].toNat : Int) = y
        have HY : Hid (Pl.low (s[k].toNat : Int) = y) := hy
        clear hy
        go_wp2
        all_goals first
          | (go_round; case rel => exact ⟨k + 1, by omega, by go_num, Pl.hexL_step s k hlt y HA.out HY.out (by omega)⟩
             case measure => simp [intOf]; omega)
          | (go_ret; exact ⟨ret_bool (Pl.hexB_no s n k hlt y HY.out (by omega)).symm, rfl⟩)
      · go_wp2
        go_ret
        exact ⟨ret_bool (Pl.hexB_yes s n k hlt HN.out HA.out).symm, rfl⟩
  · have hb : ((s.size : Int) != n) = true := by simp [hn]
    go_enter Try.func12, Try.ntmps12
    go_wp2
    go_ret
    exact ⟨ret_bool (by unfold Pl.isHexB; simp [hn]), rfl⟩
end Go.Proofs.Qxb6617427a
