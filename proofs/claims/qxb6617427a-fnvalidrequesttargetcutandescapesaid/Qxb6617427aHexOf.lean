/-
  THE CONTRACTS of ZZisHex, zzHexOf.
-/
import Derived.Test.Qxb6617427aLeaf
import Derived.Laws.IdiomStrings
namespace Go.Proofs.Qxb6617427a
open Go.RowKit

theorem zzIsHex_any (s : ByteArray) (n : Int) (b : Bool) (w : World) (hs : s.size ≤ maxLen) (hb : Hid (Pl.isHexB s n = b)) :
    Calls Try.prog 6 #[.string s, .int .i64 n] w fun e w' => e = .returned (.bool b) ∧ w' = w := by
  go_enter Try.func6, Try.ntmps6
  go_wp2_with fail
  refine (isHex_any _ _ _ hs).mono ?_
  rintro e w' ⟨rfl, rfl⟩
  rw [hb.out]
  go_wp2
  go_ret
  exact ⟨rfl, rfl⟩

theorem info5 : (Try.prog.info? 5).map (fun i => (i.zero, i.size, i.bytes)) = some (some (.int .u8 0), 1, 1) := by kernel_rfl

/-- The bytes as cells. -/
def cellsU (l : List UInt8) : List Value := l.map fun c => .int .u8 (c.toNat : Int)

theorem below_app {B : Nat} {w wr w3 : World} {o : Obj} {g : Nat} (h : Below B w wr) (hB : B ≤ w.heap.size) (hg : (wr.alloc o).grownBy w3 (some g)) (hgB : B ≤ g) : Below B w w3 :=
  (h.alloc (by have := h.size; omega) o).grown hg (by simp; have := h.size; omega) (fun _ e => by cases e; exact hgB)

theorem hexOf_step {w5 : World} {B cap : Nat} (s : ByteArray) (k : Nat) (hlt : k < s.size)
    (h : w5.ownsRow B 5 1 (.slice (some ⟨B, 0, none⟩) (2 * k + 1 + 1) cap) (2 * k + 1 + 1) (cellsU (Pl.hexOf (s.data.toList.take k)) ++ [.int .u8 (Pl.dg ((s[k].toNat : Int) / 16) true), .int .u8 (Pl.dg (s[k].toNat : Int) false)])) :
    w5.ownsRow B 5 1 (.slice (some ⟨B, 0, none⟩) (2 * (k + 1)) cap) (2 * (k + 1)) (cellsU (Pl.hexOf (s.data.toList.take (k + 1)))) := by
  rw [Pl.take_snoc s k hlt, Pl.hexOf_snoc]
  unfold cellsU at *
  rw [List.map_append]
  simp only [List.map_cons, List.map_nil, Pl.dgU_val]
  exact h

/-- What is owned, read back as a string. -/
theorem conv_back {w : World} {B n cap : Nat} (l : List UInt8) (hn : l.length = n) (h : w.ownsRow B 5 1 (.slice (some ⟨B, 0, none⟩) n cap) n (cellsU l)) :
    (convert 26 9 (.slice (some ⟨B, 0, none⟩) n cap)).run Try.prog w = .ok (.string ⟨l.toArray⟩) w := by
  subst hn
  refine run_convert_bytes_back w 26 9 5 ⟨B, 0, none⟩ cap l Try.underlying26 Try.underlying5 Try.underlying9 fun j hj => ?_
  rw [Addr.add_lit, Nat.zero_add, h.cellAt j (by omega)]
  unfold cellsU
  simp [hj]

set_option maxRecDepth 100000 in
theorem hexOf_any (s : ByteArray) (w : World) (hs : s.size ≤ 1048576) :
    Calls Try.prog 7 #[.string s] w fun e w' => e = .returned (.string ⟨(Pl.hexOf s.data.toList).toArray⟩) ∧ Below w.heap.size w w' := by
  obtain ⟨i0, hi, hz0, hz1, hz2⟩ := info_parts info5
  go_enter Try.func7, Try.ntmps7
  go_wp2_with (at_make; refine wpList_make_own _ rfl _ _ 26 rfl w.heap.size 5 i0 (.int .u8 0) 1 Try.underlying26 hi hz0 hz1 _ _ _ (2 * s.size) rfl rfl (by omega) (by rw [hz2]; omega) (by unfold maxLen; omega) (Nat.le_refl _) ?_)
  intro w1 hown hgrow
  go_wp2
  go_loopw [3, 4] (fun v i wr => ∃ k : Nat, k ≤ s.size ∧ i = .int .i64 k ∧ v = .slice (some ⟨w.heap.size, 0, none⟩) (2 * k) (2 * s.size) ∧ wr.ownsRow w.heap.size 5 1 v (2 * k) (cellsU (Pl.hexOf (s.data.toList.take k))) ∧ Below w.heap.size w wr) (fun _ i _ => s.size - (intOf i).toNat)
  case atStart => exact ⟨0, Nat.zero_le _, rfl, rfl, hown, (Below.refl _ _).grown hgrow (Nat.le_refl _) (fun _ h => by cases h)⟩
  case round =>
    obtain ⟨k, hk, rfl, rfl, hown, hnx⟩ := hrel
    by_cases hlt : k < s.size
    · have HB : Hid ((s[k].toNat : Int) < 256) := Pl.u8lt s[k]
      go_wp2_with fail
      refine (dig_any _ _ _ (by have := HB.out; omega) (by have := HB.out; omega)).mono ?_
      rintro e w2 ⟨rfl, rfl⟩
      go_wp2_with (at_builtin; refine wpList_append_fits _ rfl (.tmp 15) (.tmp 21) 26 rfl w.heap.size 5 i0 1 Try.underlying26 hi hz1 w.heap.size (2 * k) (2 * s.size) _ rfl (hown.alloc _) ⟨w2.heap.size, 0, none⟩ 1 1 [.int .u8 (Pl.dg ((s[k].toNat : Int) / 16) true)] rfl rfl (cell_one_new _ _ _) (by simp [Value.oneCell']) (by omega) ?_)
      intro w3 hown3 hgrow3
      have HX3 : Hid (Below w.heap.size w w3) := below_app hnx (Nat.le_refl _) hgrow3 (Nat.le_refl _)
      clear hgrow3 hown
      go_wp2_with fail
      refine (dig_any _ _ _ (by have := HB.out; omega) (by have := HB.out; omega)).mono ?_
      rintro e w4 ⟨rfl, rfl⟩
      go_wp2_with (at_builtin; refine wpList_append_fits _ rfl (.tmp 23) (.tmp 28) 26 rfl w.heap.size 5 i0 1 Try.underlying26 hi hz1 w.heap.size (2 * k + 1) (2 * s.size) _ rfl (hown3.alloc _) ⟨w4.heap.size, 0, none⟩ 1 1 [.int .u8 (Pl.dg (s[k].toNat : Int) false)] rfl rfl (cell_one_new _ _ _) (by simp [Value.oneCell']) (by omega) ?_)
      intro w5 hown5 hgrow5
      have HO := hexOf_step s k hlt hown5
      have HX : Hid (Below w.heap.size w w5) := below_app HX3.out (Nat.le_refl _) hgrow5 (Nat.le_refl _)
      clear hown5 hgrow5 hown3 hgrow hnx
      go_wp2
      go_roundw
      case rel => exact ⟨k + 1, by omega, by go_num, rfl, HO, HX.out⟩
      case measure => simp [intOf]; omega
    · rw [List.take_of_length_le (by simp; omega)] at hown
      have hconv := conv_back (Pl.hexOf s.data.toList) (by rw [Pl.hexOf_length]; simp; omega) hown
      have HX : Hid (Below w.heap.size w wr) := hnx
      clear hown hgrow hnx
      go_wp2
      go_ret
      exact ⟨rfl, HX.out⟩
end Go.Proofs.Qxb6617427a
