/-
  THE CONTRACT of zzSwapCase.
-/
import Derived.Test.Qxb6617427aHexOf
namespace Go.Proofs.Qxb6617427a
open Go.RowKit

/-- A row of bytes at the head of block B, free to be written. -/
def RowU (w : World) (B : Nat) (l : List UInt8) : Prop :=
  ∀ j (hj : j < l.length), w.cell? ⟨B, j, none⟩ = some (.int .u8 (l[j].toNat : Int)) ∧ w.frozen? ⟨B, j, none⟩ = false

theorem RowU.set {w : World} {B : Nat} {l : List UInt8} (h : RowU w B l) (k : Nat) (hk : k < l.length) (c : UInt8) (v : Int) (hv : v = (c.toNat : Int)) : RowU (w.setCell ⟨B, k, none⟩ (.int .u8 v)) B (l.set k c) := by
  intro j hj
  subst hv
  rw [List.length_set] at hj
  refine ⟨?_, by rw [World.frozen?_setCell]; exact (h j hj).2⟩
  by_cases e : k = j
  · subst e
    rw [World.cell?_setCell_same _ _ _ (h k hk).1]
    simp
  · rw [World.cell?_setCell_other _ _ _ _ (by intro he; injection he with _ h2; exact e h2)]
    rw [(h j hj).1, List.getElem_set_ne e]

/-- The first k bytes swapped. -/
def swp (l : List UInt8) (k : Nat) : List UInt8 := (l.take k).map Pl.swU ++ l.drop k
theorem swp_length (l : List UInt8) (k : Nat) (h : k ≤ l.length) : (swp l k).length = l.length := by
  unfold swp; simp; omega
theorem swp_at (l : List UInt8) (k : Nat) (h : k < l.length) : (swp l k)[k]'(by rw [swp_length l k (by omega)]; exact h) = l[k] := by
  unfold swp
  rw [List.getElem_append_right (by simp; omega)]
  simp [Nat.min_eq_left (Nat.le_of_lt h)]
theorem swp_succ (l : List UInt8) (k : Nat) (h : k < l.length) : swp l (k + 1) = (swp l k).set k (Pl.swU l[k]) := by
  unfold swp
  rw [List.take_succ_eq_append_getElem h, List.drop_eq_getElem_cons h, List.set_append_right _ _ (by simp; omega)]
  have e : k - (List.map Pl.swU (List.take k l)).length = 0 := by simp; omega
  rw [e, List.set_cons_zero, List.map_append]
  simp only [List.map_cons, List.map_nil, List.append_assoc, List.singleton_append]
theorem swU_of {c : UInt8} {v : Int} (h : v = Pl.sw c.toNat) : v = ((Pl.swU c).toNat : Int) := by rw [Pl.swU_val]; exact h

theorem row_step {w : World} {B : Nat} (s : ByteArray) (k : Nat) (hk : k < s.size) (h : RowU w B (swp s.data.toList k)) (v : Int) (hv : v = Pl.sw (s[k].toNat : Int)) :
    RowU (w.setCell ⟨B, k, none⟩ (.int .u8 v)) B (swp s.data.toList (k + 1)) := by
  rw [swp_succ _ _ (by simpa using hk)]
  exact h.set k (by rw [swp_length _ _ (by simp; omega)]; simpa using hk) _ _ (swU_of hv)
theorem row_keep {w : World} {B : Nat} (s : ByteArray) (k : Nat) (hk : k < s.size) (h : RowU w B (swp s.data.toList k)) (hv : Pl.sw (s[k].toNat : Int) = (s[k].toNat : Int)) :
    RowU w B (swp s.data.toList (k + 1)) := by
  have e : Pl.swU s[k] = s[k] := by
    apply UInt8.toNat_inj.1
    have := Pl.swU_val s[k]
    omega
  have hkl : k < s.data.toList.length := by simpa using hk
  have e2 : s.data.toList[k] = s[k] := rfl
  rw [swp_succ _ _ hkl, e2, e]
  have : (swp s.data.toList k).set k s[k] = swp s.data.toList k := by
    have := swp_at s.data.toList k hkl
    rw [e2] at this
    rw [← this]
    exact List.set_getElem_self _
  rw [this]
  exact h
theorem row_at {w : World} {B : Nat} (s : ByteArray) (k : Nat) (hk : k < s.size) (h : RowU w B (swp s.data.toList k)) :
    w.cell? ⟨B, k, none⟩ = some (.int .u8 (s[k].toNat : Int)) ∧ w.frozen? ⟨B, k, none⟩ = false := by
  have hkl : k < s.data.toList.length := by simpa using hk
  have := h k (by rw [swp_length _ _ (by omega)]; exact hkl)
  rw [swp_at _ _ hkl] at this
  exact this

theorem conv_row {w : World} {B n cap : Nat} (l : List UInt8) (hn : l.length = n) (h : RowU w B l) :
    (convert 26 9 (.slice (some ⟨B, 0, none⟩) n cap)).run Try.prog w = .ok (.string ⟨l.toArray⟩) w := by
  subst hn
  refine run_convert_bytes_back w 26 9 5 ⟨B, 0, none⟩ cap l Try.underlying26 Try.underlying5 Try.underlying9 fun j hj => ?_
  rw [Addr.add_lit, Nat.zero_add]
  exact (h j hj).1

set_option maxRecDepth 100000 in
theorem swap_core (s : ByteArray) (cap : Nat) (o : Obj) (w : World) (hs : s.size ≤ 4194304)
    (hconv : (convert 9 26 (.string s)).run Try.prog w = .ok (.slice (some ⟨w.heap.size, 0, none⟩) s.size cap) (w.drew.alloc o))
    (hrow : RowU (w.alloc o).drew w.heap.size (swp s.data.toList 0)) :
    Calls Try.prog 8 #[.string s] w fun e w' => e = .returned (.string ⟨(s.data.toList.map Pl.swU).toArray⟩) ∧ Below w.heap.size w w' := by
  have HR : Hid (RowU (w.alloc o).drew w.heap.size (swp s.data.toList 0)) := hrow
  clear hrow
  go_enter Try.func8, Try.ntmps8
  go_wp2
  go_loopw [4] (fun i wr => ∃ k : Nat, k ≤ s.size ∧ i = .int .i64 k ∧ RowU wr w.heap.size (swp s.data.toList k) ∧ Below w.heap.size w wr) (fun i _ => s.size - (intOf i).toNat)
  case atStart => exact ⟨0, Nat.zero_le _, rfl, HR.out, ((Below.refl _ _).alloc (Nat.le_refl _) _).drew⟩
  case round =>
    obtain ⟨k, hk, rfl, hrow, hnx⟩ := hrel
    clear HR hconv
    have HX : Hid (Below w.heap.size w wr) := hnx
    have HR : Hid (RowU wr w.heap.size (swp s.data.toList k)) := hrow
    clear hnx
    by_cases hlt : k < s.size
    · obtain ⟨hc, hf⟩ := row_at s k hlt hrow
      have HB : Hid ((s[k].toNat : Int) < 256) := Pl.u8lt s[k]
      clear hrow
      go_wp2
      all_goals
        go_roundw
        case rel => first
          | exact ⟨k + 1, by omega, by go_num, row_step s k hlt HR.out _ (by unfold Pl.sw; split <;> (try split) <;> omega), HX.out.setCell (Nat.le_refl _) _⟩
          | exact ⟨k + 1, by omega, by go_num, row_keep s k hlt HR.out (by unfold Pl.sw; split <;> (try split) <;> omega), HX.out⟩
        case measure => simp [intOf]; omega
    · have hconv := conv_row (cap := cap) (n := s.size) _ (by rw [swp_length _ _ (by simp; omega)]; simp) hrow
      clear hrow
      go_wp2
      go_ret
      refine ⟨?_, HX.out⟩
      show Ending.returned (.string ⟨(swp s.data.toList k).toArray⟩) = _
      unfold swp
      rw [List.take_of_length_le (by simp; omega), List.drop_eq_nil_of_le (by simp; omega), List.append_nil]

theorem swap_any (s : ByteArray) (w : World) (hs : s.size ≤ 4194304) :
    Calls Try.prog 8 #[.string s] w fun e w' => e = .returned (.string ⟨(s.data.toList.map Pl.swU).toArray⟩) ∧ Below w.heap.size w w' := by
  refine swap_core s _ _ w hs (run_bytes_of_string w 9 26 5 s Try.underlying9 Try.underlying26 Try.underlying5) ?_
  have e : swp s.data.toList 0 = s.data.toList := by unfold swp; simp
  rw [e]
  intro j hj
  have hj' : j < s.size := by simpa using hj
  refine ⟨?_, ?_⟩
  · refine (World.cell?_alloc_mark w _ 5 _ j).trans ?_
    unfold bytesRow
    rw [Array.getElem?_append_left (by simp; exact hj')]
    rw [Array.getElem?_map, Array.getElem?_eq_getElem (by exact hj')]
    rfl
  · refine (World.frozen?_alloc_mark w _ 5 _ _ j).trans ?_
    unfold bytesRow
    simp
    omega
end Go.Proofs.Qxb6617427a
