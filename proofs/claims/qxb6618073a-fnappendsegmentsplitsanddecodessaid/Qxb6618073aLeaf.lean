/-
  THE CONTRACTS of the leaf functions: zzBytes (two), zzUnreserved, zzUpperHex, zzBytesEq, zzHasSlash.
-/
import Derived.Test.Qxb6618073aRows
import Derived.Test.Qxb6618073aPlain
import Derived.WalkKit
import Derived.WalkLawsBesides
import Derived.WalkSpells
import Derived.Deep.QuietTactic
import Derived.BigQuiet
namespace Go.Proofs.Qxb6618073a
open Go.RowKit

theorem ret_int {k : IntKind} {a b : Int} (h : a = b) : Ending.returned (.int k a) = .returned (.int k b) := by rw [h]
theorem ret_bool {a b : Bool} (h : a = b) : Ending.returned (.bool a) = .returned (.bool b) := by rw [h]
theorem ret_pair {k : IntKind} {a b : Int} {c : Bool} (h : a = b) : Ending.returned (.tuple #[.int k a, .bool c]) = .returned (.tuple #[.int k b, .bool c]) := by rw [h]
theorem hide {p : Prop} (h : p) : Hid p := h

theorem bytes2_any (a : Option Addr) (n c : Nat) (a' : Option Addr) (n' c' : Nat) (w : World) (h : n ≤ maxLen) (h' : n' ≤ maxLen) :
    Calls Try.prog 10 #[.slice a n c, .slice a' n' c'] w fun e w' => e = .returned (.bool (decide (n + n' ≤ 1048576))) ∧ w' = w := by
  unfold maxLen at h h'
  go_enter Try.func10, Try.ntmps10
  go_wp2
  all_goals
    go_ret
    exact ⟨ret_bool (by simp; omega), rfl⟩
theorem bytes3_any (a : Option Addr) (n c : Nat) (a' : Option Addr) (n' c' : Nat) (k : Int) (w : World) (h : n ≤ maxLen) (h' : n' ≤ maxLen) :
    Calls Try.prog 5 #[.slice a n c, .slice a' n' c', .int .i64 k] w fun e w' => e = .returned (.bool (decide (n + n' ≤ 1048576))) ∧ w' = w := by
  unfold maxLen at h h'
  go_enter Try.func5, Try.ntmps5
  go_wp2
  all_goals
    go_ret
    exact ⟨ret_bool (by simp; omega), rfl⟩

set_option maxRecDepth 100000 in
theorem unr_any (x : Int) (w : World) (h0 : 0 ≤ x) (h1 : x ≤ 255) :
    Calls Try.prog 14 #[.int .u8 x] w fun e w' => e = .returned (.bool (Pl.unrI x)) ∧ w' = w := by
  go_enter Try.func14, Try.ntmps14
  go_wp2
  all_goals
    go_ret
    refine ⟨ret_bool ?_, rfl⟩
    first
      | decide
      | (unfold Pl.unrI; rw [Bool.eq_iff_iff]; simp only [Bool.or_eq_true, beq_iff_eq, decide_eq_true_eq, true_iff]; omega)

set_option maxRecDepth 100000 in
theorem hex_any (x d : Int) (w : World) (h : (48 ≤ x ∧ x ≤ 57 ∧ d = x - 48) ∨ (65 ≤ x ∧ x ≤ 70 ∧ d = x - 55)) :
    Calls Try.prog 13 #[.int .u8 x] w fun e w' => e = .returned (.tuple #[.int .u8 d, .bool true]) ∧ w' = w := by
  rcases h with ⟨h1, h2, h3⟩ | ⟨h1, h2, h3⟩
  · have HD := hide h3
    clear h3
    go_enter Try.func13, Try.ntmps13
    go_wp2
    go_ret2
    exact ⟨ret_pair (by have := HD.out; omega), rfl⟩
  · have HD := hide h3
    clear h3
    go_enter Try.func13, Try.ntmps13
    go_wp2
    go_ret2
    exact ⟨ret_pair (by have := HD.out; omega), rfl⟩

/-- THE SLICE VALUE v READS AS THE BYTES l, and its cells lie in a block below B. -/
def Rd (B : Nat) (w : World) (v : Value) (l : List UInt8) : Prop :=
  ∃ (ao : Option Addr) (cap : Nat), v = .slice ao l.length cap ∧ l.length ≤ cap ∧ cap ≤ maxLen ∧ (ao = none → cap = 0) ∧
    (l ≠ [] → ∃ b o, ao = some ⟨b, o, none⟩ ∧ b < B ∧ ∀ i (h : i < l.length), w.cell? ⟨b, o + i, none⟩ = some (.int .u8 (l[i].toNat : Int)))

theorem Rd.below {B : Nat} {w w' : World} {v : Value} {l : List UInt8} (h : Rd B w v l) (hb : Below B w w') : Rd B w' v l := by
  obtain ⟨ao, cap, hv, h1, h2, h3, h4⟩ := h
  refine ⟨ao, cap, hv, h1, h2, h3, fun hn => ?_⟩
  obtain ⟨b, o, ha, hlt, hc⟩ := h4 hn
  exact ⟨b, o, ha, hlt, fun i hi => (hb.cell (p := ⟨b, o + i, none⟩) hlt).trans (hc i hi)⟩
theorem Rd.mono {B B' : Nat} {w : World} {v : Value} {l : List UInt8} (h : Rd B w v l) (hB : B ≤ B') : Rd B' w v l := by
  obtain ⟨ao, cap, hv, h1, h2, h3, h4⟩ := h
  refine ⟨ao, cap, hv, h1, h2, h3, fun hn => ?_⟩
  obtain ⟨b, o, ha, hlt, hc⟩ := h4 hn
  exact ⟨b, o, ha, by omega, hc⟩

theorem drewN_drewN (w : World) (a b : Nat) : (w.drewN a).drewN b = w.drewN (a + b) := World.drewN_drewN ..
theorem u8lt (c : UInt8) : (c.toNat : Int) < 256 := by have := c.toNat_lt; omega
theorem u8bne (c d : UInt8) : ((c.toNat : Int) != (d.toNat : Int)) = !decide (c = d) := by
  by_cases h : c = d
  · simp [h]
  · have : ¬ (c.toNat : Int) = (d.toNat : Int) := fun e => h (UInt8.toNat_inj.1 (by omega))
    simp [h, this]
theorem eq_take {l m : List UInt8} {k : Nat} (h1 : k < l.length) (h2 : k < m.length) (h : l.take k = m.take k) (hc : l[k] = m[k]) : l.take (k + 1) = m.take (k + 1) := by
  rw [Pl.take_snoc l k h1, Pl.take_snoc m k h2, h, hc]
theorem ne_of_at {l m : List UInt8} {k : Nat} (h1 : k < l.length) (h2 : k < m.length) (hc : ¬ l[k] = m[k]) : false = (l == m) := by
  symm
  rw [beq_eq_false_iff_ne]
  intro e
  subst e
  exact hc rfl
theorem eq_of_take {l m : List UInt8} {k : Nat} (hl : l.length = m.length) (hk : ¬ k < l.length) (h : l.take k = m.take k) : true = (l == m) := by
  rw [List.take_of_length_le (by omega), List.take_of_length_le (by omega)] at h
  subst h
  simp

set_option maxRecDepth 100000 in
set_option maxHeartbeats 800000 in
theorem eq_any (v1 v2 : Value) (l m : List UInt8) (B : Nat) (w : World) (h1 : Rd B w v1 l) (h2 : Rd B w v2 m) :
    Calls Try.prog 8 #[v1, v2] w fun e w' => e = .returned (.bool (l == m)) ∧ ∃ nq, w' = w.drewN nq := by
  obtain ⟨a1, c1, rfl, q1, q2, _, r1⟩ := h1
  obtain ⟨a2, c2, rfl, s1, s2, _, r2⟩ := h2
  unfold maxLen at q2 s2
  by_cases hl : l.length = m.length
  · have t1 : ((l.length : Int) != (m.length : Int)) = false := by simp [hl]
    by_cases hn : l = []
    · subst hn
      have hm : m = [] := List.eq_nil_of_length_eq_zero hl.symm
      subst hm
      clear r1 r2 hl
      go_enter Try.func8, Try.ntmps8
      go_wp2
      refine wp_loop_rounds 1 ?_
      rw [rounds_succ]
      go_wp2
      go_ret
      exact ⟨rfl, 0, rfl⟩
    · obtain ⟨b, o, rfl, _, hc⟩ := r1 hn
      obtain ⟨b', o', rfl, _, hc'⟩ := r2 (by intro e; subst e; exact hn (List.eq_nil_of_length_eq_zero hl))
      have HL := hide hl
      have HC := hide hc
      have HC' := hide hc'
      clear r1 r2 hc hc' hl
      go_enter Try.func8, Try.ntmps8
      go_wp2
      go_loopw [5] (fun i wr => ∃ k nq : Nat, k ≤ l.length ∧ i = .int .i64 k ∧ Hid (l.take k = m.take k) ∧ Hid (wr = w.drewN nq)) (fun i _ => l.length - (intOf i).toNat)
      case atStart => exact ⟨0, 0, Nat.zero_le _, rfl, rfl, rfl⟩
      case round =>
        obtain ⟨k, nq, hk, rfl, HT, HW⟩ := hrel
        by_cases hlt : k < l.length
        · have hlt' : k < m.length := by rw [← HL.out]; exact hlt
          have hck : wr.cell? ⟨b, o + k, none⟩ = some (.int .u8 (l[k].toNat : Int)) := by rw [HW.out]; exact HC.out k hlt
          have hck' : wr.cell? ⟨b', o' + k, none⟩ = some (.int .u8 (m[k].toNat : Int)) := by rw [HW.out]; exact HC'.out k hlt'
          have i1 : (k : Int) < (l.length : Int) := by omega
          have i2 : (k : Int) < (m.length : Int) := by omega
          by_cases he : l[k] = m[k]
          · have t2 : ((l[k].toNat : Int) != (m[k].toNat : Int)) = false := by rw [u8bne]; simp [he]
            have HE := hide he
            clear he
            go_wp2
            go_quiet (fail)
            go_wp2
            go_roundw
            case rel => exact ⟨k + 1, _, by omega, by go_num, eq_take hlt hlt' HT.out HE.out, by rw [HW.out]; exact drewN_drewN _ _ _⟩
            case measure => simp [intOf]; omega
          · have t2 : ((l[k].toNat : Int) != (m[k].toNat : Int)) = true := by rw [u8bne]; simp [he]
            have HE := hide he
            clear he
            go_wp2
            go_quiet (fail)
            go_wp2
            go_ret
            exact ⟨ret_bool (ne_of_at hlt hlt' HE.out), _, by rw [HW.out]; exact drewN_drewN _ _ _⟩
        · go_wp2
          go_ret
          exact ⟨ret_bool (eq_of_take HL.out hlt HT.out), nq, HW.out⟩
  · have t1 : ((l.length : Int) != (m.length : Int)) = true := by simp; omega
    have HE : Hid (false = (l == m)) := by
      unfold Hid
      symm
      rw [beq_eq_false_iff_ne]
      intro e; subst e; exact hl rfl
    clear r1 r2 hl
    go_enter Try.func8, Try.ntmps8
    go_wp2
    go_ret
    exact ⟨ret_bool HE.out, 0, rfl⟩

theorem slash_step {l : List UInt8} {k : Nat} (h : k < l.length) (hA : (l.take k).contains 47 = false) (hc : ¬ l[k] = 47) : (l.take (k + 1)).contains 47 = false := by
  rw [Pl.take_snoc l k h, List.contains_append, hA]
  simp
  exact fun e => hc e.symm
theorem slash_yes {l : List UInt8} {k : Nat} (h : k < l.length) (hc : l[k] = 47) : true = l.contains 47 := by
  symm
  rw [List.contains_iff_mem, ← hc]
  exact List.getElem_mem _
theorem slash_end {l : List UInt8} {k : Nat} (h : ¬ k < l.length) (hA : (l.take k).contains 47 = false) : false = l.contains 47 := by
  rw [List.take_of_length_le (by omega)] at hA
  exact hA.symm

set_option maxRecDepth 100000 in
set_option maxHeartbeats 800000 in
theorem slash_any (v1 : Value) (l : List UInt8) (r : Bool) (B : Nat) (w : World) (h1 : Rd B w v1 l) (hr : Hid (l.contains 47 = r)) :
    Calls Try.prog 11 #[v1] w fun e w' => e = .returned (.bool r) ∧ w' = w := by
  obtain ⟨a1, c1, rfl, q1, q2, _, r1⟩ := h1
  unfold maxLen at q2
  by_cases hn : l = []
  · have HR : Hid (false = r) := by unfold Hid; rw [← hr.out, hn]; rfl
    subst hn
    clear r1 hr
    go_enter Try.func11, Try.ntmps11
    go_wp2
    refine wp_loop_rounds 1 ?_
    rw [rounds_succ]
    go_wp2
    go_ret
    exact ⟨ret_bool HR.out, rfl⟩
  · obtain ⟨b, o, rfl, _, hc⟩ := r1 hn
    have HC := hide hc
    clear r1 hc
    go_enter Try.func11, Try.ntmps11
    go_wp2
    go_loop [3] (fun i => ∃ k : Nat, k ≤ l.length ∧ i = .int .i64 k ∧ Hid ((l.take k).contains 47 = false)) (fun i => l.length - (intOf i).toNat)
    case atStart => exact ⟨0, Nat.zero_le _, rfl, rfl⟩
    case round =>
      obtain ⟨k, hk, rfl, HT⟩ := hrel
      by_cases hlt : k < l.length
      · have hck : w.cell? ⟨b, o + k, none⟩ = some (.int .u8 (l[k].toNat : Int)) := HC.out k hlt
        have i1 : (k : Int) < (l.length : Int) := by omega
        by_cases he : l[k] = 47
        · have t2 : ((l[k].toNat : Int) == 47) = true := by rw [he]; rfl
          have HE := hide he
          clear he
          go_wp2
          go_ret
          exact ⟨ret_bool ((slash_yes hlt HE.out).trans hr.out), rfl⟩
        · have t2 : ((l[k].toNat : Int) == 47) = false := by
            rw [beq_eq_false_iff_ne]
            intro e
            exact he (UInt8.toNat_inj.1 (by have : (47 : UInt8).toNat = 47 := rfl; omega))
          have HE := hide he
          clear he
          go_wp2
          go_round
          case rel => exact ⟨k + 1, by omega, by go_num, slash_step hlt HT.out HE.out⟩
          case measure => simp [intOf]; omega
      · go_wp2
        go_ret
        exact ⟨ret_bool ((slash_end hlt HT.out).trans hr.out), rfl⟩
end Go.Proofs.Qxb6618073a
