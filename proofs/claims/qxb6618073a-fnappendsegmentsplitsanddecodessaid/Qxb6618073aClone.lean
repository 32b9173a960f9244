/-
  THE CONTRACT of zzCloneBytes.
-/
import Derived.Test.Qxb6618073aRowIn
namespace Go.Proofs.Qxb6618073a
open Go.RowKit

/-- The first k cells copied. -/
def mix (l : List UInt8) (zs : List Value) (k : Nat) : List Value := cellsU (l.take k) ++ zs.drop k
theorem mix_succ (l : List UInt8) (zs : List Value) (k : Nat) (hk : k < l.length) (hz : zs.length = l.length) : mix l zs (k + 1) = (mix l zs k).set k (.int .u8 (l[k].toNat : Int)) := by
  unfold mix
  rw [Pl.take_snoc l k hk, cellsU_append, List.drop_eq_getElem_cons (by omega : k < zs.length), List.set_append_right _ _ (by rw [cellsU_length]; simp; omega)]
  have e : k - (cellsU (l.take k)).length = 0 := by rw [cellsU_length]; simp; omega
  rw [e, List.set_cons_zero]
  unfold cellsU
  simp
theorem mix_end (l : List UInt8) (zs : List Value) (k : Nat) (hk : ¬ k < l.length) (hz : zs.length = l.length) : mix l zs k = cellsU l := by
  unfold mix
  rw [List.take_of_length_le (by omega), List.drop_eq_nil_of_le (by omega), List.append_nil]
theorem made_length (n : Nat) : (madeCells #[Value.int .u8 0] n).toList.length = n := by
  simp [madeCells]

set_option maxRecDepth 100000 in
set_option maxHeartbeats 800000 in
theorem clone_none (w : World) :
    Calls Try.prog 7 #[.slice none 0 0] w fun e w' => e = .returned (.slice none 0 0) ∧ w' = w := by
  have hnil := fun w => Lib.run_eql_slice_nil (P := Try.prog) w 22 5 none 0 0 0 0 Try.underlying22
  go_enter Try.func7, Try.ntmps7
  go_wp2
  go_ret
  exact ⟨rfl, rfl⟩

set_option maxRecDepth 100000 in
set_option maxHeartbeats 800000 in
theorem clone_empty (A : Addr) (c : Nat) (w : World) :
    Calls Try.prog 7 #[.slice (some A) 0 c] w fun e w' => ∃ v', e = .returned v' ∧ w'.ownsRow w.heap.size 5 1 v' 0 [] ∧ Below w.heap.size w w' := by
  obtain ⟨i0, hi, hz0, hz1, hz2⟩ := info_parts info5
  have hnil := fun w => Lib.run_eql_slice_nil (P := Try.prog) w 22 5 (some A) 0 c 0 0 Try.underlying22
  go_enter Try.func7, Try.ntmps7
  go_wp2_with (at_make; refine wpList_make_full _ rfl _ _ 22 rfl w.heap.size 5 i0 (.int .u8 0) 1 Try.underlying22 hi hz0 hz1 _ _ _ _ 0 rfl rfl (by omega) (by omega) (by rw [hz2]; omega) (by unfold maxLen; omega) (Nat.le_refl _) ?_)
  intro w1 how hg
  have HO : Hid (w1.ownsRow w.heap.size 5 1 (.slice (some ⟨w.heap.size, 0, none⟩) 0 0) 0 []) := by
    have e : (madeCells #[Value.int .u8 0] 0).toList = [] := List.eq_nil_of_length_eq_zero (made_length 0)
    rw [e] at how
    exact how
  have HB : Hid (Below w.heap.size w w1) := (Below.refl _ _).grown hg (Nat.le_refl _) (fun _ h => by cases h)
  clear how hg
  go_wp2
  refine wp_loop_rounds 1 ?_
  rw [rounds_succ]
  go_wp2
  go_ret
  exact ⟨_, rfl, HO.out, HB.out⟩

set_option maxRecDepth 100000 in
set_option maxHeartbeats 800000 in
theorem clone_some (b o c : Nat) (l : List UInt8) (w : World) (hl : l.length ≤ 1048576) (hbB : b < w.heap.size) (hpos : 0 < l.length)
    (HC : Hid (∀ i (h : i < l.length), w.cell? ⟨b, o + i, none⟩ = some (.int .u8 (l[i].toNat : Int)))) :
    Calls Try.prog 7 #[.slice (some ⟨b, o, none⟩) l.length c] w fun e w' => ∃ v', e = .returned v' ∧ w'.ownsRow w.heap.size 5 1 v' l.length (cellsU l) ∧ Below w.heap.size w w' := by
  obtain ⟨i0, hi, hz0, hz1, hz2⟩ := info_parts info5
  have hnil := fun w => Lib.run_eql_slice_nil (P := Try.prog) w 22 5 (some ⟨b, o, none⟩) l.length c 0 0 Try.underlying22
  go_enter Try.func7, Try.ntmps7
  go_wp2_with (at_make; refine wpList_make_full _ rfl _ _ 22 rfl w.heap.size 5 i0 (.int .u8 0) 1 Try.underlying22 hi hz0 hz1 _ _ _ _ l.length rfl rfl (by omega) (by omega) (by rw [hz2]; omega) (by unfold maxLen; omega) (Nat.le_refl _) ?_)
  intro w1 how hg
  have hml : (madeCells #[Value.int .u8 0] l.length).toList.length = l.length := made_length _
  generalize (madeCells #[Value.int .u8 0] l.length).toList = zs at *
  have HO : Hid (w1.ownsRow w.heap.size 5 1 (.slice (some ⟨w.heap.size, 0, none⟩) l.length l.length) l.length (mix l zs 0)) := by
    unfold Hid mix cellsU
    simpa using how
  have HB : Hid (Below w.heap.size w w1) := (Below.refl _ _).grown hg (Nat.le_refl _) (fun _ h => by cases h)
  have HML := hide hml
  clear how hg hml
  go_wp2
  go_loopw [4] (fun i wr => ∃ k : Nat, k ≤ l.length ∧ i = .int .i64 k ∧ wr.ownsRow w.heap.size 5 1 (.slice (some ⟨w.heap.size, 0, none⟩) l.length l.length) l.length (mix l zs k) ∧ Below w.heap.size w wr) (fun i _ => l.length - (intOf i).toNat)
  case atStart => exact ⟨0, Nat.zero_le _, rfl, HO.out, HB.out⟩
  case round =>
    obtain ⟨k, hk, rfl, hown, hnx⟩ := hrel
    clear HO HB
    have HO := hide hown
    have HX := hide hnx
    by_cases hlt : k < l.length
    · have hc : wr.cell? ⟨b, o + k, none⟩ = some (.int .u8 (l[k].toNat : Int)) := by rw [hnx.cell (p := ⟨b, o + k, none⟩) hbB]; exact HC.out k hlt
      have hf := hown.frozenAt k
      obtain ⟨u, hu⟩ : ∃ u, wr.cell? ⟨w.heap.size, k, none⟩ = some u := by
        have := hown.cellAt k (by omega)
        have hl2 := hown.1
        exact ⟨(mix l zs k)[k]'(by omega), by rw [this, List.getElem?_eq_getElem]⟩
      have i1 : (k : Int) < (l.length : Int) := by omega
      clear hown hnx
      go_wp2
      go_roundw
      case rel =>
        have hst := HO.out.stored k (.int .u8 (l[k].toNat : Int))
        exact ⟨k + 1, by omega, by go_num, by rw [mix_succ l zs k hlt HML.out]; exact hst.1, HX.out.setCell (Nat.le_refl _) _⟩
      case measure => simp [intOf]; omega
    · clear hown hnx
      go_wp2
      go_ret
      refine ⟨_, rfl, ?_, HX.out⟩
      have := HO.out
      rw [mix_end l zs k hlt HML.out] at this
      exact this

theorem clone_any (v : Value) (l : List UInt8) (w : World) (hl : l.length ≤ 1048576) (hr : Rd w.heap.size w v l) :
    Calls Try.prog 7 #[v] w fun e w' => ∃ v', e = .returned v' ∧ w'.ownsRow w.heap.size 5 1 v' l.length (cellsU l) ∧ Below w.heap.size w w' := by
  obtain ⟨ao, cap, rfl, h1, h2, h3, h4⟩ := hr
  by_cases hn : l = []
  · subst hn
    cases ao with
    | none =>
      obtain rfl := h3 rfl
      refine (clone_none w).mono ?_
      rintro e w' ⟨rfl, rfl⟩
      exact ⟨_, rfl, World.ownsRow_nil _ _ _ _, Below.refl _ _⟩
    | some A => exact clone_empty A cap w
  · obtain ⟨b, o, rfl, hlt, hc⟩ := h4 hn
    exact clone_some b o cap l w hl hlt (List.length_pos_iff.2 hn) hc
end Go.Proofs.Qxb6618073a
