/-
  THE CONTRACT of zzIsCanonicalEncodingOf, at an encoding and what it encodes.
-/
import Derived.Test.Qxb6618073aRowIn
namespace Go.Proofs.Qxb6618073a
open Go.RowKit

theorem unr_is (x : Int) (r : Bool) (w : World) (h0 : 0 ≤ x) (h1 : x ≤ 255) (hr : Hid (Pl.unrI x = r)) :
    Calls Try.prog 14 #[.int .u8 x] w fun e w' => e = .returned (.bool r) ∧ w' = w := by
  refine (unr_any x w h0 h1).mono ?_
  rintro e w' ⟨rfl, rfl⟩
  exact ⟨ret_bool hr.out, rfl⟩

theorem hex_of (d : Int) (w : World) (h0 : 0 ≤ d) (h1 : d < 16) :
    Calls Try.prog 13 #[.int .u8 (Pl.hxI d)] w fun e w' => e = .returned (.tuple #[.int .u8 d, .bool true]) ∧ w' = w := by
  refine hex_any _ d w ?_
  unfold Pl.hxI
  by_cases h : d < 10
  · rw [if_pos h]; left; omega
  · rw [if_neg h]; right; omega

set_option maxRecDepth 100000 in
theorem or16n : ∀ n : Fin 256, (n.val / 16 * 16 ||| n.val % 16) = n.val := by decide
theorem or16 (x : Int) (h0 : 0 ≤ x) (h1 : x ≤ 255) : bits BinOp.or IntKind.u8 (x / 16 * 16) (x % 16) = x := by
  obtain ⟨n, rfl⟩ := Int.eq_ofNat_of_zero_le h0
  rw [u8_or _ _ (by omega) (by omega) (by omega) (by omega)]
  have := or16n ⟨n, by omega⟩
  simp only at this
  rw [show ((n : Int) / 16 * 16).toNat = n / 16 * 16 by omega, show ((n : Int) % 16).toNat = n % 16 by omega, this]

set_option maxRecDepth 100000 in
set_option maxHeartbeats 1600000 in
theorem canon_some (be oe ce bb ob cb m n : Nat) (l : List UInt8) (w : World) (hn : Hid (n = l.length)) (hm : Hid (m = (Pl.enc l).length)) (hnb : n ≤ 1048576) (hmb : m ≤ 3145728)
    (HE : Hid (∀ i (h : i < (Pl.enc l).length), w.cell? ⟨be, oe + i, none⟩ = some (.int .u8 ((Pl.enc l)[i].toNat : Int))))
    (HC : Hid (∀ i (h : i < l.length), w.cell? ⟨bb, ob + i, none⟩ = some (.int .u8 (l[i].toNat : Int)))) :
    Calls Try.prog 9 #[.slice (some ⟨be, oe, none⟩) m ce, .slice (some ⟨bb, ob, none⟩) n cb] w fun e w' => e = .returned (.bool true) ∧ w' = w := by
  go_enter Try.func9, Try.ntmps9
  go_wp2
  go_loop [5, 6, 7, 8, 9, 10, 11, 12] (fun i j _ _ _ _ _ _ => ∃ k p : Nat, k ≤ n ∧ p ≤ m ∧ i = .int .i64 p ∧ j = .int .i64 k ∧ Hid (p = (Pl.enc (l.take k)).length)) (fun _ j _ _ _ _ _ _ => n - (intOf j).toNat)
  case atStart => exact ⟨0, 0, Nat.zero_le _, Nat.zero_le _, rfl, rfl, rfl⟩
  case round =>
    obtain ⟨k, p, hk, hp, rfl, rfl, HP⟩ := hrel
    by_cases hlt : k < n
    · have hll : k < l.length := by rw [← hn.out]; exact hlt
      have hpm : p < m := by rw [HP.out, hm.out]; exact Pl.below_end l k hll
      have i1 : (p : Int) < (m : Int) := by omega
      have i2 : (k : Int) < (n : Int) := by omega
      have hroom := Pl.room l k
      obtain ⟨x, hx⟩ : ∃ x : Int, x = (l[k].toNat : Int) := ⟨_, rfl⟩
      have x0 : 0 ≤ x := by omega
      have x1 : x ≤ 255 := by have := Pl.u8lt l[k]; omega
      have hcb : w.cell? ⟨bb, ob + k, none⟩ = some (.int .u8 x) := by rw [hx]; exact HC.out k hll
      have txx : (x != x) = false := by simp
      cases hu : Pl.unr l[k] with
      | true =>
        have hst := Pl.step1 l k hll hu
        have hat := Pl.at1 l k hll hu
        have hce : w.cell? ⟨be, oe + p, none⟩ = some (.int .u8 x) := by
          rw [← HP.out] at hat
          obtain ⟨q1, q2⟩ := List.getElem?_eq_some_iff.1 hat
          rw [HE.out p q1, q2, hx]
        have HU : Hid (Pl.unrI x = true) := by rw [hx]; exact hu
        have hp1 : p + 1 ≤ m := by rw [hm.out]; rw [hst, ← HP.out] at hroom; exact hroom
        have HS : Hid (p + 1 = (Pl.enc (l.take (k + 1))).length) := by rw [hst, ← HP.out]; rfl
        have t37 : (x == 37) = false := by
          rw [beq_eq_false_iff_ne]
          intro e
          rw [e] at HU
          exact absurd HU.out (by decide)
        clear hat hst hroom hx hu
        go_wp2_with fail
        refine (unr_is _ true _ x0 x1 HU).mono ?_
        rintro e w' ⟨rfl, rfl⟩
        go_wp2
        go_round
        case rel => exact ⟨k + 1, p + 1, by omega, by omega, by go_num, by go_num, HS⟩
        case measure => simp [intOf]; omega
      | false =>
        have hst := Pl.step3 l k hll hu
        have hat := Pl.at3 l k hll hu
        rw [← HP.out] at hat hst
        obtain ⟨a1, a2, a3⟩ := hat
        have hce : w.cell? ⟨be, oe + p, none⟩ = some (.int .u8 37) := by
          obtain ⟨q1, q2⟩ := List.getElem?_eq_some_iff.1 a1
          rw [HE.out p q1, q2]; rfl
        have hl256 := Pl.u8lt l[k]
        have hce1 : w.cell? ⟨be, oe + (p + 1), none⟩ = some (.int .u8 (Pl.hxI (x / 16))) := by
          obtain ⟨q1, q2⟩ := List.getElem?_eq_some_iff.1 a2
          rw [HE.out (p + 1) q1, q2, Pl.hx_val _ (by omega), hx]; rfl
        have hce2 : w.cell? ⟨be, oe + (p + 2), none⟩ = some (.int .u8 (Pl.hxI (x % 16))) := by
          obtain ⟨q1, q2⟩ := List.getElem?_eq_some_iff.1 a3
          rw [HE.out (p + 2) q1, q2, Pl.hx_val _ (by omega), hx]; rfl
        have HU : Hid (Pl.unrI x = false) := by rw [hx]; exact hu
        have hp3 : p + 3 ≤ m := by rw [hm.out]; rw [hst] at hroom; exact hroom
        have HS : Hid (p + 3 = (Pl.enc (l.take (k + 1))).length) := by rw [hst]; rfl
        have i3 : (p : Int) + 1 < (m : Int) := by omega
        have i4 : (p : Int) + 2 < (m : Int) := by omega
        clear a1 a2 a3 hst hroom hx hu hl256
        go_wp2_with fail
        refine (hex_of _ _ (by omega) (by omega)).mono ?_
        rintro e w' ⟨rfl, rfl⟩
        go_wp2_with fail
        refine (hex_of _ _ (by omega) (by omega)).mono ?_
        rintro e w' ⟨rfl, rfl⟩
        have hor := or16 x x0 x1
        go_wp2_with fail
        refine (unr_is _ false _ x0 x1 HU).mono ?_
        rintro e w' ⟨rfl, rfl⟩
        go_wp2
        go_round
        case rel => exact ⟨k + 1, p + 3, by omega, by omega, by go_num, by go_num, HS⟩
        case measure => simp [intOf]; omega
    · have HP2 := HP.out
      rw [List.take_of_length_le (by rw [← hn.out]; omega), ← hm.out] at HP2
      have hpm : ¬ (p : Int) < (m : Int) := by omega
      have tkn : ((k : Int) == (n : Int)) = true := by simp; omega
      clear HP2
      go_wp2
      go_ret
      exact ⟨rfl, rfl⟩

set_option maxRecDepth 100000 in
set_option maxHeartbeats 800000 in
theorem canon_none (ae ab : Option Addr) (ce cb : Nat) (w : World) :
    Calls Try.prog 9 #[.slice ae 0 ce, .slice ab 0 cb] w fun e w' => e = .returned (.bool true) ∧ w' = w := by
  go_enter Try.func9, Try.ntmps9
  go_wp2
  refine wp_loop_rounds 1 ?_
  rw [rounds_succ]
  go_wp2
  go_ret
  exact ⟨rfl, rfl⟩

theorem canon_any (ve vb : Value) (l : List UInt8) (B : Nat) (w : World) (hl : l.length ≤ 1048576) (he : Rd B w ve (Pl.enc l)) (hb : Rd B w vb l) :
    Calls Try.prog 9 #[ve, vb] w fun e w' => e = .returned (.bool true) ∧ w' = w := by
  obtain ⟨ae, ce, rfl, _, _, _, e4⟩ := he
  obtain ⟨ab, cb, rfl, _, _, _, b4⟩ := hb
  have hlo := Pl.enc_lo l
  by_cases hn : l = []
  · subst hn
    exact canon_none ae ab ce cb w
  · have hp := List.length_pos_iff.2 hn
    obtain ⟨be, oe, rfl, _, hce⟩ := e4 (List.length_pos_iff.1 (by omega))
    obtain ⟨bb, ob, rfl, _, hcb⟩ := b4 hn
    exact canon_some be oe ce bb ob cb _ _ l w rfl rfl hl (by omega) hce hcb
end Go.Proofs.Qxb6618073a
