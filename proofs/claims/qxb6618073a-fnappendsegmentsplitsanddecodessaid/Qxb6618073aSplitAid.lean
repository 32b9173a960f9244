/-
  CUTS OF SLICES, as they are read; the contracts of appendSegment and zzCloneBytes with the value written out.
-/
import Derived.Test.Qxb6618073aClone
import Derived.Test.Qxb6618073aCanon
import Derived.Deep.RegionWith
namespace Go.Proofs.Qxb6618073a
open Go.RowKit

theorem rd_empty (B : Nat) (w : World) (a : Option Addr) (c : Nat) (h : a = none → c = 0) (hc : c ≤ maxLen) {l : List UInt8} (hl : l.length = 0) : Rd B w (.slice a 0 c) l := by
  have : l = [] := List.eq_nil_of_length_eq_zero hl
  subst this
  exact ⟨a, c, rfl, Nat.zero_le _, hc, h, fun hn => absurd rfl hn⟩
theorem rd_cells {B : Nat} {w : World} {g o N cap : Nat} {L : List UInt8} (h : Rd B w (.slice (some ⟨g, o, none⟩) N cap) L) : L.length = N ∧ N ≤ cap ∧ cap ≤ maxLen ∧ ∀ i (hi : i < L.length), g < B ∧ w.cell? ⟨g, o + i, none⟩ = some (.int .u8 (L[i].toNat : Int)) := by
  obtain ⟨ao, c, hv, h1, h2, _, h4⟩ := h
  simp only [Value.slice.injEq] at hv
  obtain ⟨ha, hN, hc⟩ := hv
  refine ⟨hN.symm, by omega, by omega, fun i hi => ?_⟩
  obtain ⟨b, o', hb, hlt, hcell⟩ := h4 (by intro e; subst e; simp at hi)
  rw [← ha] at hb
  simp only [Option.some.injEq, Addr.mk.injEq, and_true] at hb
  obtain ⟨rfl, rfl⟩ := hb
  exact ⟨hlt, hcell i hi⟩
theorem rd_drew {w : World} {v : Value} {l : List UInt8} (h : Rd w.heap.size w v l) : Rd w.drew.heap.size w.drew v l := h.below (Below.refl _ _).drew
/-- 's[:j]' -/
theorem rd_head {B : Nat} {w : World} {g o N cap : Nat} {L : List UInt8} (h : Rd B w (.slice (some ⟨g, o, none⟩) N cap) L) (j : Nat) (hj : j ≤ N) : Rd B w (.slice (some ⟨g, o, none⟩) j cap) (L.take j) := by
  obtain ⟨h1, h2, h3, h4⟩ := rd_cells h
  have hl : (L.take j).length = j := by simp; omega
  refine ⟨some ⟨g, o, none⟩, cap, by rw [hl], by omega, h3, (fun e => by cases e), fun hn => ⟨g, o, rfl, (h4 0 ?_).1, fun i hi => ?_⟩⟩
  · have := List.length_pos_iff.2 hn; omega
  · rw [(h4 i (by omega)).2]; simp
/-- 's[i:]', short of the capacity's end -/
theorem rd_tail {B : Nat} {w : World} {g o N cap : Nat} {L : List UInt8} (h : Rd B w (.slice (some ⟨g, o, none⟩) N cap) L) (i : Nat) (hi : i ≤ N) : Rd B w (.slice (some ⟨g, o + i, none⟩) (N - i) (cap - i)) (L.drop i) := by
  obtain ⟨h1, h2, h3, h4⟩ := rd_cells h
  have hl : (L.drop i).length = N - i := by simp; omega
  refine ⟨some ⟨g, o + i, none⟩, cap - i, by rw [hl], by omega, by omega, (fun e => by cases e), fun hn => ⟨g, o + i, rfl, (h4 0 ?_).1, fun j hj => ?_⟩⟩
  · have := List.length_pos_iff.2 hn; omega
  · have := (h4 (i + j) (by omega)).2
    rw [Nat.add_assoc, this]
    simp

/-- The encoding of a segment onto a slice that the call owns: nil, or at the head of a row. -/
theorem seg_at (vd vb : Value) (ld lb : List UInt8) (B : Nat) (w : World) (hB : B ≤ w.heap.size) (hown : w.ownsRow B 5 1 vd ld.length (cellsU ld)) (hn : ld.length ≤ 4194304) (hlb : lb.length ≤ 1048576) (hb : Rd B w vb lb) :
    Calls Try.prog 6 #[vd, vb] w fun e w' => ∃ v', e = .returned v' ∧ (v' = .slice none 0 0 ∧ (ld ++ Pl.enc lb).length = 0 ∨ ∃ g cap, v' = .slice (some ⟨g, 0, none⟩) (ld ++ Pl.enc lb).length cap) ∧ w'.ownsRow B 5 1 v' (ld ++ Pl.enc lb).length (cellsU (ld ++ Pl.enc lb)) ∧ Rd w'.heap.size w' v' (ld ++ Pl.enc lb) ∧ Below B w w' := by
  refine (seg_any vd vb ld lb B w hB hown hn hlb hb).mono ?_
  rintro e w' ⟨v', rfl, ho, hbl⟩
  refine ⟨v', rfl, ?_, ho, own_rd ho, hbl⟩
  rcases ho.2 with ⟨hv, hn0⟩ | ⟨g, cap, cur, hv, _⟩
  · exact .inl ⟨hv, hn0⟩
  · exact .inr ⟨g, cap, hv⟩
theorem part_le {l0 l1 : List UInt8} {n0 n1 : Nat} (h0 : l0.length = n0) (h1 : l1.length = n1) (h : n0 + n1 ≤ 1048576) (k : Nat) : (l0 ++ Pl.enc (l1.take k)).length ≤ 4194304 := by
  have := Pl.enc_lo (l1.take k)
  have h2 := List.length_take_le k l1
  have h3 : (l1.take k).length ≤ l1.length := by rw [List.length_take]; omega
  rw [List.length_append]
  omega
theorem whole_len (l0 l1 : List UInt8) (n0 n1 : Nat) (h0 : l0.length = n0) (h1 : l1.length = n1) : n0 + n1 ≤ (l0 ++ Pl.enc l1).length ∧ (l0 ++ Pl.enc l1).length ≤ n0 + 3 * n1 := by
  have := Pl.enc_lo l1
  rw [List.length_append]
  omega
theorem same_parts (l0 l1 : List UInt8) (k : Nat) : (l0 ++ Pl.enc l1 == l0 ++ Pl.enc (l1.take k) ++ Pl.enc (l1.drop k)) = true := by
  rw [List.append_assoc, ← Pl.enc_append, List.take_append_drop]
  simp
end Go.Proofs.Qxb6618073a
