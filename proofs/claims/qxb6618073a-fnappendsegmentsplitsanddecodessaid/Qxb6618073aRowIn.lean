/-
  A SLICE OF BYTES THAT CAME IN, as it is read; the copy of one.
-/
import Derived.Test.Qxb6618073aSegB
import Derived.Laws.CopyOwn
namespace Go.Proofs.Qxb6618073a
open Go.RowKit

/-- What the shell tells of a slice that came in. -/
def IsRow8 (w : World) (a : Option Addr) (len cap : Nat) (zs : List Int) : Prop :=
  (a = none ∧ len = 0 ∧ cap = 0 ∧ zs = []) ∨
  ∃ x, a = some x ∧ len ≤ cap ∧ cap ≤ maxLen ∧ zs.length = cap ∧ (∀ i, i < zs.length → w.cell? (x.add i) = some (.int .u8 (zs.getD i 0))) ∧ ∀ n ∈ zs, (Lit.int .u8 n).wf = true

theorem addr_of_cell {w : World} {x : Addr} {v : Value} (h : w.cell? x = some v) : ∃ b o, x = ⟨b, o, none⟩ ∧ b < w.heap.size := by
  obtain ⟨b, o, sp⟩ := x
  unfold World.cell? at h
  split at h
  · rename_i c e f hb
    cases sp with
    | none => exact ⟨b, o, rfl, lt_of_block hb⟩
    | some _ => simp at h
  · simp at h

theorem isRow_rd {w : World} {a : Option Addr} {len cap : Nat} {zs : List Int} (h : IsRow8 w a len cap zs) : ∃ l : List UInt8, l.length = len ∧ Rd w.heap.size w (.slice a len cap) l := by
  rcases h with ⟨rfl, rfl, rfl, rfl⟩ | ⟨x, rfl, h1, h2, h3, h4, h5⟩
  · exact ⟨[], rfl, none, 0, rfl, Nat.le_refl _, Nat.zero_le _, fun _ => rfl, fun hn => absurd rfl hn⟩
  · let l : List UInt8 := (zs.take len).map fun z => UInt8.ofNat z.toNat
    have hl : l.length = len := by simp [l]; omega
    refine ⟨l, hl, some x, cap, by rw [hl], by rw [hl]; exact h1, h2, (fun e => by cases e), fun hn => ?_⟩
    have hpos : 0 < len := by rw [← hl]; exact List.length_pos_iff.2 hn
    have e0 : x.add 0 = x := by obtain ⟨b, o, sp⟩ := x; cases sp <;> simp [Addr.add]
    have hc0 := h4 0 (by omega)
    rw [e0] at hc0
    obtain ⟨b, o, rfl, hb⟩ := addr_of_cell hc0
    refine ⟨b, o, rfl, hb, fun i hi => ?_⟩
    have hil : i < len := by omega
    have hiz : i < zs.length := by omega
    have := h4 i hiz
    rw [Addr.add_lit] at this
    rw [this]
    have hz : zs.getD i 0 = zs[i] := by simp [List.getD, hiz]
    have hwf := h5 zs[i] (List.getElem_mem _)
    have hw2 : 0 ≤ zs[i] ∧ zs[i] ≤ 255 := by
      simp [Lit.wf, IntKind.min, IntKind.max, IntKind.signed, IntKind.bits] at hwf
      omega
    have hli : l[i] = UInt8.ofNat zs[i].toNat := by simp [l]
    rw [hz, hli]
    congr 2
    simp only [UInt8.toNat_ofNat']
    omega

/-- A slice of bytes in a result, written out. -/
theorem seg_lies (vd vb : Value) (ld lb : List UInt8) (B : Nat) (w : World) (hB : B ≤ w.heap.size) (hown : w.ownsRow B 5 1 vd ld.length (cellsU ld)) (hn : ld.length ≤ 4194304) (hlb : lb.length ≤ 1048576) (hb : Rd B w vb lb) :
    Calls Try.prog 6 #[vd, vb] w fun e w' => ∃ (ao : Option Addr) (cap : Nat), e = .returned (.slice ao (ld ++ Pl.enc lb).length cap) ∧ (w'.ownsRow B 5 1 (.slice ao (ld ++ Pl.enc lb).length cap) (ld ++ Pl.enc lb).length (cellsU (ld ++ Pl.enc lb)) ∧ Rd w'.heap.size w' (.slice ao (ld ++ Pl.enc lb).length cap) (ld ++ Pl.enc lb)) ∧ Below B w w' := by
  refine (seg_any vd vb ld lb B w hB hown hn hlb hb).mono ?_
  rintro e w' ⟨v', rfl, ho, hbl⟩
  have hr := own_rd ho
  obtain ⟨ao, cap, hv, _⟩ := hr
  subst hv
  exact ⟨ao, cap, rfl, ⟨ho, own_rd ho⟩, hbl⟩

/-- What 'make' and 'copy' have laid reads as the bytes that were copied. -/
theorem copied {w : World} {g n : Nat} {l : List UInt8} {cur : List Value} (hn : l.length = n) (hm : n ≤ maxLen) (hcur : cur.length = n) (h : w.heap[g]? = some (.cells (splice cur 0 (cellsU l)).toArray 5 (0, 0))) :
    Rd w.heap.size w (.slice (some ⟨g, 0, none⟩) n n) l := by
  refine ⟨some ⟨g, 0, none⟩, n, by rw [hn], by omega, hm, (fun e => by cases e), fun _ => ⟨g, 0, rfl, lt_of_block h, fun i hi => ?_⟩⟩
  have e : splice cur 0 (cellsU l) = cellsU l := by
    unfold splice
    rw [Nat.zero_add, cellsU_length, List.drop_eq_nil_of_le (by omega)]
    simp
  rw [e] at h
  unfold World.cell?
  simp only [h]
  unfold cellsU
  simp [hi]

/-- The row that 'make' has laid. -/
theorem made_row {w : World} {B g n : Nat} {xs : List Value} (h : w.ownsRow B 5 1 (.slice (some ⟨g, 0, none⟩) n n) n xs) : ∃ cur : List Value, cur.length = n ∧ w.heap[g]? = some (.cells cur.toArray 5 (0, 0)) := by
  rcases h.2 with ⟨h', _⟩ | ⟨g', cap', cur, h', _, hg, _, _, hs, _⟩
  · simp at h'
  · simp only [Value.slice.injEq, Option.some.injEq, Addr.mk.injEq, and_true, true_and] at h'
    obtain ⟨rfl, rfl⟩ := h'
    exact ⟨cur.toList, by simp; omega, by simpa using hg⟩
theorem info5s : (Try.prog.info? 5).map (·.size) = some 1 := by kernel_rfl
theorem cellsU_one (l : List UInt8) : ∀ v ∈ cellsU l, v.oneCell' = true := by
  intro v hv
  unfold cellsU at hv
  obtain ⟨c, _, rfl⟩ := List.mem_map.1 hv
  rfl
/-- The source of a copy, as it is read. -/
theorem src_of {B : Nat} {w : World} {a : Option Addr} {n c : Nat} {l : List UInt8} (h : Rd B w (.slice a n c) l) (hpos : 0 < (cellsU l).length) : ∃ ad, a = some ad ∧ ∀ j v, (cellsU l)[j]? = some v → w.cell? (ad.add j) = some v := by
  obtain ⟨ao, cap, hv, _, _, _, h4⟩ := h
  simp only [Value.slice.injEq] at hv
  obtain ⟨rfl, _, _⟩ := hv
  rw [cellsU_length] at hpos
  obtain ⟨b, o, ha, _, hc⟩ := h4 (List.length_pos_iff.1 hpos)
  refine ⟨_, ha, fun j v hj => ?_⟩
  rw [Addr.add_lit]
  unfold cellsU at hj
  rw [List.getElem?_map] at hj
  obtain ⟨u, hu, rfl⟩ := Option.map_eq_some_iff.1 hj
  obtain ⟨hlt, rfl⟩ := List.getElem?_eq_some_iff.1 hu
  exact hc j hlt
theorem rd_nil (B : Nat) (w : World) : Rd B w (.slice none 0 0) [] := ⟨none, 0, rfl, Nat.le_refl _, Nat.zero_le _, fun _ => rfl, fun hn => absurd rfl hn⟩
theorem rd_nil' (B : Nat) (w : World) {l : List UInt8} (h : l.length = 0) : Rd B w (.slice none 0 0) l := by
  have : l = [] := List.eq_nil_of_length_eq_zero h
  subst this
  exact rd_nil B w
theorem Rd.drewN {B : Nat} {w w' : World} {v : Value} {l : List UInt8} {nq : Nat} (h : Rd B w v l) (hw : w' = w.drewN nq) : Rd B w' v l := by
  subst hw
  exact h.below (below_drewN (Below.refl _ _) nq)
/-- The encoding of a segment onto nothing. -/
theorem seg_bare (vb : Value) (lb : List UInt8) (w : World) (hlb : lb.length ≤ 1048576) (hb : Rd w.heap.size w vb lb) :
    Calls Try.prog 6 #[.slice none 0 0, vb] w fun e w' => ∃ (ao : Option Addr) (cap : Nat), e = .returned (.slice ao (Pl.enc lb).length cap) ∧ Rd w'.heap.size w' (.slice ao (Pl.enc lb).length cap) (Pl.enc lb) ∧ Below w.heap.size w w' := by
  refine (seg_lies (.slice none 0 0) vb [] lb w.heap.size w (Nat.le_refl _) (World.ownsRow_nil _ _ _ _) (Nat.zero_le _) hlb hb).mono ?_
  rintro e w' ⟨ao, cap, rfl, ⟨_, hr⟩, hbl⟩
  exact ⟨ao, cap, rfl, hr, hbl⟩
end Go.Proofs.Qxb6618073a
