/-
  PLAIN FACTS for the law on request targets: no Go in sight.
-/
import Derived.Test.Qxb6617427aPlain
namespace Go.Proofs.Qxb6617427a.Pl

/-- A byte that may stand in a request target. -/
def okI (x : Int) : Bool := decide (32 < x ∧ x < 127 ∧ x ≠ 35)
def okL (l : List UInt8) : Bool := l.all fun c => okI (c.toNat : Int)
def tg (l : List UInt8) : Bool := (l.head? == some 47) && okL l
def aln (x : Int) : Bool := decide ((48 ≤ x ∧ x ≤ 57) ∨ (97 ≤ x ∧ x ≤ 122) ∨ (65 ≤ x ∧ x ≤ 90))
def esc1 (c : UInt8) : List UInt8 := if aln c.toNat then [c] else [37, dgU (c.toNat / 16) true, dgU c.toNat true]
def escL (l : List UInt8) : List UInt8 := 47 :: l.flatMap esc1

theorem okL_append (a b : List UInt8) : okL (a ++ b) = (okL a && okL b) := by unfold okL; exact List.all_append
theorem okL_step (s : ByteArray) (k : Nat) (h : k < s.size) (hA : okL (s.data.toList.take k) = true) (hx : 32 < (s[k].toNat : Int) ∧ (s[k].toNat : Int) < 127 ∧ (s[k].toNat : Int) ≠ 35) : okL (s.data.toList.take (k + 1)) = true := by
  rw [take_snoc s k h, okL_append, hA]
  unfold okL okI
  simp only [List.all_cons, List.all_nil, Bool.and_true, Bool.true_and]
  simpa only [decide_eq_true_eq] using hx
theorem tg_no (s : ByteArray) (k : Nat) (h : k < s.size) (hx : ¬ (32 < (s[k].toNat : Int) ∧ (s[k].toNat : Int) < 127 ∧ (s[k].toNat : Int) ≠ 35)) : tg s.data.toList = false := by
  have : okL s.data.toList = false := by
    unfold okL
    rw [List.all_eq_false]
    refine ⟨s[k], ?_, ?_⟩
    · show s.data[k] ∈ _
      exact Array.mem_toList_iff.2 (Array.getElem_mem _)
    · unfold okI
      simpa only [decide_eq_true_eq] using hx
  unfold tg
  rw [this, Bool.and_false]
theorem tg_yes (s : ByteArray) (k : Nat) (h : ¬ k < s.size) (hh : (s.data.toList.head? == some 47) = true) (hA : okL (s.data.toList.take k) = true) : tg s.data.toList = true := by
  rw [List.take_of_length_le (by simp; omega)] at hA
  unfold tg
  rw [hh, hA]; rfl
theorem tg_head (l : List UInt8) (h : (l.head? == some 47) = false) : tg l = false := by unfold tg; rw [h, Bool.false_and]
theorem okL_dg (x : Nat) (up : Bool) : okI ((dgU x up).toNat : Int) = true := by
  rw [dgU_val]
  have := dg_bd x up
  unfold okI
  simp only [decide_eq_true_eq]
  omega
theorem okL_esc1 (c : UInt8) : okL (esc1 c) = true := by
  unfold esc1
  split
  · rename_i h
    unfold aln at h
    simp only [decide_eq_true_eq] at h
    unfold okL okI
    simp only [List.all_cons, List.all_nil, Bool.and_true, decide_eq_true_eq]
    omega
  · unfold okL
    simp only [List.all_cons, List.all_nil, Bool.and_true]
    rw [okL_dg, okL_dg]
    decide
theorem okL_flat (l : List UInt8) : okL (l.flatMap esc1) = true := by
  induction l with
  | nil => rfl
  | cons a l ih => rw [List.flatMap_cons, okL_append, okL_esc1, ih]; rfl
theorem tg_esc (l : List UInt8) : tg (escL l) = true := by
  have : okL (escL l) = true := by
    show okL ([47] ++ l.flatMap esc1) = true
    rw [okL_append, okL_flat]; decide
  unfold tg
  rw [this]
  rfl
theorem tg_snoc_bad (l : List UInt8) (c : UInt8) (h : okI (c.toNat : Int) = false) : tg (l ++ [c]) = false := by
  have : okL (l ++ [c]) = false := by
    rw [okL_append]
    unfold okL
    simp [h]
  unfold tg
  rw [this, Bool.and_false]
theorem esc1_head (c : UInt8) : ∃ d r, esc1 c = d :: r ∧ ¬ d = 47 := by
  unfold esc1
  split
  · rename_i h
    refine ⟨c, [], rfl, ?_⟩
    rintro rfl
    revert h
    decide
  · exact ⟨37, _, rfl, by decide⟩
theorem tg_esc_tail (l : List UInt8) : tg (l.flatMap esc1) = false := by
  apply tg_head
  cases l with
  | nil => rfl
  | cons a l =>
    obtain ⟨d, r, h, hd⟩ := esc1_head a
    rw [List.flatMap_cons, h]
    simp [hd]
/-- A leading slash more turns nothing. -/
theorem tg_lead (l : List UInt8) (h : (l.head? == some 47) = true) : tg ([47] ++ l) = tg l := by
  unfold tg
  rw [h, okL_append]
  have : okL [47] = true := by decide
  rw [this]
  rfl
theorem tg_cut (l : List UInt8) (k : Nat) (hk : 0 < k) : tg l = (tg (l.take k) && tg ([47] ++ l.drop k)) := by
  have e1 : okL l = (okL (l.take k) && okL (l.drop k)) := by rw [← okL_append, List.take_append_drop]
  have e2 : (l.take k).head? = l.head? := by
    cases l with
    | nil => simp
    | cons a l => cases k with | zero => omega | succ k => rfl
  have e3 : tg ([47] ++ l.drop k) = okL (l.drop k) := by
    unfold tg
    rw [okL_append]
    have : okL [47] = true := by decide
    rw [this]
    rfl
  rw [e3]
  unfold tg
  rw [e1, e2, Bool.and_assoc]
theorem escL_length (l : List UInt8) : (escL l).length ≤ 1 + 3 * l.length := by
  unfold escL
  rw [List.length_cons]
  suffices h : (l.flatMap esc1).length ≤ 3 * l.length by omega
  induction l with
  | nil => exact Nat.le_refl _
  | cons a l ih =>
    rw [List.flatMap_cons, List.length_append, List.length_cons]
    have : (esc1 a).length ≤ 3 := by unfold esc1; split <;> simp
    omega
theorem escL_snoc (l : List UInt8) (c : UInt8) : escL (l ++ [c]) = escL l ++ esc1 c := by unfold escL; simp
end Go.Proofs.Qxb6617427a.Pl
