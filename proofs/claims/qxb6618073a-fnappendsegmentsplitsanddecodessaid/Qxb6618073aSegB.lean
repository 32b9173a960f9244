/-
  THE CONTRACTS of appendSegment and ZZAppendSegment, for every slice.
-/
import Derived.Test.Qxb6618073aSeg
namespace Go.Proofs.Qxb6618073a
open Go.RowKit

set_option maxRecDepth 100000 in
theorem seg_none (vd : Value) (ao : Option Addr) (cap : Nat) (w : World) :
    Calls Try.prog 12 #[vd, .slice ao 0 cap] w fun e w' => e = .returned vd ∧ w' = w := by
  go_enter Try.func12, Try.ntmps12
  go_wp2
  refine wp_loop_rounds 1 ?_
  rw [rounds_succ]
  go_wp2
  go_ret
  exact ⟨rfl, rfl⟩

theorem seg12_any (vd vb : Value) (ld lb : List UInt8) (B : Nat) (w : World) (hB : B ≤ w.heap.size) (hown : w.ownsRow B 5 1 vd ld.length (cellsU ld)) (hn : ld.length ≤ 4194304) (hlb : lb.length ≤ 1048576) (hb : Rd B w vb lb) :
    Calls Try.prog 12 #[vd, vb] w fun e w' => ∃ v', e = .returned v' ∧ w'.ownsRow B 5 1 v' (ld ++ Pl.enc lb).length (cellsU (ld ++ Pl.enc lb)) ∧ Below B w w' := by
  obtain ⟨ao, cap, rfl, h1, h2, h3, h4⟩ := hb
  by_cases hl : lb = []
  · subst hl
    refine (seg_none vd ao cap w).mono ?_
    rintro e w' ⟨rfl, rfl⟩
    refine ⟨vd, rfl, ?_, Below.refl _ _⟩
    rw [Pl.enc_nil, List.append_nil]
    exact hown
  · obtain ⟨b, o, rfl, hlt, hc⟩ := h4 hl
    exact seg_some vd _ ld lb _ b o cap B w hB rfl hown hn hlb hlt hc

theorem seg_any (vd vb : Value) (ld lb : List UInt8) (B : Nat) (w : World) (hB : B ≤ w.heap.size) (hown : w.ownsRow B 5 1 vd ld.length (cellsU ld)) (hn : ld.length ≤ 4194304) (hlb : lb.length ≤ 1048576) (hb : Rd B w vb lb) :
    Calls Try.prog 6 #[vd, vb] w fun e w' => ∃ v', e = .returned v' ∧ w'.ownsRow B 5 1 v' (ld ++ Pl.enc lb).length (cellsU (ld ++ Pl.enc lb)) ∧ Below B w w' := by
  have HO := hide hown
  have HR := hide hb
  clear hown hb
  go_enter Try.func6, Try.ntmps6
  go_wp2_with fail
  refine (seg12_any vd vb ld lb B w hB HO.out hn hlb HR.out).mono ?_
  rintro e w' ⟨v', rfl, ho, hbl⟩
  have HO' := hide ho
  have HB' := hide hbl
  clear ho hbl
  go_wp2
  go_ret
  exact ⟨v', rfl, HO'.out, HB'.out⟩

/-- WHAT IS OWNED READS AS ITS BYTES. -/
theorem own_rd {w : World} {B : Nat} {v : Value} {l : List UInt8} (h : w.ownsRow B 5 1 v l.length (cellsU l)) : Rd w.heap.size w v l := by
  rcases h.2 with ⟨rfl, hn⟩ | ⟨g, cap, cur, rfl, hb, hg, hnc, hcm, _, _⟩
  · have : l = [] := List.eq_nil_of_length_eq_zero hn
    subst this
    exact ⟨none, 0, rfl, Nat.le_refl _, Nat.zero_le _, fun _ => rfl, fun hn => absurd rfl hn⟩
  · refine ⟨some ⟨g, 0, none⟩, cap, rfl, hnc, hcm, (fun e => by cases e), fun _ => ⟨g, 0, rfl, lt_of_block hg, fun i hi => ?_⟩⟩
    rw [Nat.zero_add, h.cellAt i (by omega)]
    unfold cellsU
    simp [hi]
end Go.Proofs.Qxb6618073a
