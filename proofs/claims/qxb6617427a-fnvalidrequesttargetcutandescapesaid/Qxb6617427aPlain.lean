/-
  PLAIN FACTS on bytes and lists for the two laws of this seat: no Go in sight.
-/
namespace Go.Proofs.Qxb6617427a.Pl

/-- An ASCII upper-case letter to lower case. -/
def low (x : Int) : Int := if 65 ≤ x ∧ x ≤ 90 then x + 32 else x
/-- A hex digit of either case. -/
def hexI (x : Int) : Bool := decide ((48 ≤ x ∧ x ≤ 57) ∨ (65 ≤ x ∧ x ≤ 70) ∨ (97 ≤ x ∧ x ≤ 102))
def hexL (l : List UInt8) : Bool := l.all fun c => hexI (c.toNat : Int)
def isHexB (s : ByteArray) (n : Int) : Bool := decide ((s.size : Int) = n) && hexL s.data.toList
/-- The digit of the low four bits. -/
def dg (x : Int) (up : Bool) : Int := if x % 16 < 10 then 48 + x % 16 else if up then 55 + x % 16 else 87 + x % 16
def dgU (x : Nat) (up : Bool) : UInt8 := UInt8.ofNat (dg x up).toNat
def hexOf (l : List UInt8) : List UInt8 := l.flatMap fun c => [dgU (c.toNat / 16) true, dgU c.toNat false]
def sw (x : Int) : Int := if 97 ≤ x ∧ x ≤ 122 then x - 32 else if 65 ≤ x ∧ x ≤ 90 then x + 32 else x
def swU (c : UInt8) : UInt8 := UInt8.ofNat (sw c.toNat).toNat

theorem u8lt (c : UInt8) : (c.toNat : Int) < 256 := by have := c.toNat_lt; omega
theorem take_snoc (s : ByteArray) (k : Nat) (h : k < s.size) : s.data.toList.take (k + 1) = s.data.toList.take k ++ [s[k]] := by
  rw [List.take_succ_eq_append_getElem (by simpa using h)]; rfl
theorem dg_bd (x : Int) (up : Bool) : 48 ≤ dg x up ∧ dg x up ≤ 102 := by unfold dg; split <;> (try split) <;> omega
theorem dgU_val (x : Nat) (up : Bool) : ((dgU x up).toNat : Int) = dg x up := by
  have := dg_bd x up
  unfold dgU
  simp only [UInt8.toNat_ofNat']
  omega
theorem hexI_dg (x : Int) (up : Bool) : hexI (dg x up) = true := by
  unfold hexI dg; simp only [decide_eq_true_eq]; split <;> (try split) <;> omega
theorem sw_bd (x : Int) (h : 0 ≤ x) (h2 : x < 256) : 0 ≤ sw x ∧ sw x < 256 := by unfold sw; split <;> (try split) <;> omega
theorem swU_val (c : UInt8) : ((swU c).toNat : Int) = sw c.toNat := by
  have := sw_bd c.toNat (by omega) (u8lt c)
  unfold swU
  simp only [UInt8.toNat_ofNat']
  omega
theorem hexI_sw (x : Int) (h : hexI x = true) : hexI (sw x) = true := by
  unfold hexI at *; simp only [decide_eq_true_eq] at *; unfold sw; split <;> (try split) <;> omega
theorem hexI_low (x : Int) : hexI x = decide (¬ ((low x < 48 ∨ 57 < low x) ∧ (low x < 97 ∨ 102 < low x))) := by
  unfold hexI low
  rw [Bool.eq_iff_iff]
  simp only [decide_eq_true_eq]
  split <;> omega

theorem hexL_hexOf (l : List UInt8) : hexL (hexOf l) = true := by
  unfold hexL hexOf
  rw [List.all_eq_true]
  intro c hc
  rw [List.mem_flatMap] at hc
  obtain ⟨d, _, hd⟩ := hc
  simp only [List.mem_cons, List.not_mem_nil, or_false] at hd
  rcases hd with rfl | rfl
  · rw [dgU_val]; exact hexI_dg _ _
  · rw [dgU_val]; exact hexI_dg _ _
theorem hexL_sw (l : List UInt8) (h : hexL l = true) : hexL (l.map swU) = true := by
  unfold hexL at *
  rw [List.all_eq_true] at *
  intro c hc
  obtain ⟨d, hd, rfl⟩ := List.mem_map.1 hc
  rw [swU_val]
  exact hexI_sw _ (h d hd)
theorem hexL_append (a b : List UInt8) : hexL (a ++ b) = (hexL a && hexL b) := by unfold hexL; exact List.all_append
theorem hexL_bad (a b : List UInt8) : hexL (a ++ [103] ++ b) = false := by
  rw [hexL_append, hexL_append]
  have : hexL [103] = false := by decide
  simp [this]
theorem hexOf_length (l : List UInt8) : (hexOf l).length = 2 * l.length := by
  unfold hexOf
  induction l with
  | nil => rfl
  | cons a l ih => simp only [List.flatMap_cons, List.length_append, ih, List.length_cons, List.length_nil]; omega
theorem hexOf_snoc (l : List UInt8) (c : UInt8) : hexOf (l ++ [c]) = hexOf l ++ [dgU (c.toNat / 16) true, dgU c.toNat false] := by
  unfold hexOf; simp
theorem hexL_step (s : ByteArray) (k : Nat) (h : k < s.size) (y : Int) (hA : hexL (s.data.toList.take k) = true) (hy : low (s[k].toNat : Int) = y) (hx : ¬ ((y < 48 ∨ 57 < y) ∧ (y < 97 ∨ 102 < y))) : hexL (s.data.toList.take (k + 1)) = true := by
  rw [take_snoc s k h, hexL_append, hA]
  subst hy
  unfold hexL
  simp only [List.all_cons, List.all_nil, Bool.and_true, Bool.true_and]
  rw [hexI_low]
  simpa only [decide_eq_true_eq] using hx
theorem hexB_no (s : ByteArray) (n : Int) (k : Nat) (h : k < s.size) (y : Int) (hy : low (s[k].toNat : Int) = y) (hx : (y < 48 ∨ 57 < y) ∧ (y < 97 ∨ 102 < y)) : isHexB s n = false := by
  have : hexL s.data.toList = false := by
    unfold hexL
    rw [List.all_eq_false]
    refine ⟨s[k], ?_, ?_⟩
    · show s.data[k] ∈ _
      exact Array.mem_toList_iff.2 (Array.getElem_mem _)
    · subst hy
      rw [hexI_low]
      simpa only [decide_eq_true_eq, Decidable.not_not] using hx
  unfold isHexB
  rw [this, Bool.and_false]
theorem hexB_yes (s : ByteArray) (n : Int) (k : Nat) (h : ¬ k < s.size) (hn : (s.size : Int) = n) (hA : hexL (s.data.toList.take k) = true) : isHexB s n = true := by
  rw [List.take_of_length_le (by simp; omega)] at hA
  unfold isHexB
  simp [hn, hA]
end Go.Proofs.Qxb6617427a.Pl
