/-
  PLAIN FACTS on the percent-encoding of a path segment: no Go in sight.
-/
namespace Go.Proofs.Qxb6618073a.Pl

/-- An unreserved character of RFC 3986. -/
def unrI (x : Int) : Bool := decide ((97 ≤ x ∧ x ≤ 122) ∨ (65 ≤ x ∧ x ≤ 90) ∨ (48 ≤ x ∧ x ≤ 57) ∨ x = 45 ∨ x = 46 ∨ x = 95 ∨ x = 126)
def unr (c : UInt8) : Bool := unrI (c.toNat : Int)
/-- An upper-case hex digit. -/
def hxI (d : Int) : Int := if d < 10 then 48 + d else 55 + d
def hx (d : Nat) : UInt8 := UInt8.ofNat (hxI d).toNat
def enc1 (c : UInt8) : List UInt8 := if unr c then [c] else [37, hx (c.toNat / 16), hx (c.toNat % 16)]
def enc (l : List UInt8) : List UInt8 := l.flatMap enc1

theorem u8lt (c : UInt8) : c.toNat < 256 := c.toNat_lt
theorem hx_val (d : Nat) (h : d < 16) : ((hx d).toNat : Int) = hxI d := by
  unfold hx hxI
  simp only [UInt8.toNat_ofNat']
  split <;> omega
theorem hxI_inj (a b : Int) (h0 : 0 ≤ a) (h1 : a < 16) (h2 : 0 ≤ b) (h3 : b < 16) (h : hxI a = hxI b) : a = b := by
  unfold hxI at h
  split at h <;> split at h <;> omega
theorem enc_nil : enc [] = [] := rfl
theorem enc_cons (c : UInt8) (l : List UInt8) : enc (c :: l) = enc1 c ++ enc l := by unfold enc; rw [List.flatMap_cons]
theorem enc_append (a b : List UInt8) : enc (a ++ b) = enc a ++ enc b := by unfold enc; simp
theorem enc_snoc (l : List UInt8) (c : UInt8) : enc (l ++ [c]) = enc l ++ enc1 c := by rw [enc_append, enc_cons, enc_nil, List.append_nil]
theorem enc1_lo (c : UInt8) : 1 ≤ (enc1 c).length ∧ (enc1 c).length ≤ 3 := by unfold enc1; split <;> simp
theorem enc_lo : ∀ l : List UInt8, l.length ≤ (enc l).length ∧ (enc l).length ≤ 3 * l.length
  | [] => by simp [enc_nil]
  | c :: l => by
    have h1 := enc1_lo c
    have h2 := enc_lo l
    rw [enc_cons, List.length_append, List.length_cons]
    omega
theorem unr37 : unr 37 = false := by decide
theorem enc1_ne (c d : UInt8) (r s : List UInt8) (h : enc1 c ++ r = enc1 d ++ s) : c = d ∧ r = s := by
  unfold enc1 at h
  by_cases hc : unr c = true
  · by_cases hd : unr d = true
    · rw [if_pos hc, if_pos hd] at h
      simp only [List.singleton_append, List.cons.injEq] at h
      exact h
    · rw [if_pos hc, if_neg hd] at h
      simp only [List.cons_append, List.nil_append, List.cons.injEq] at h
      rw [h.1, unr37] at hc
      cases hc
  · by_cases hd : unr d = true
    · rw [if_neg hc, if_pos hd] at h
      simp only [List.cons_append, List.nil_append, List.cons.injEq] at h
      rw [← h.1, unr37] at hd
      cases hd
    · rw [if_neg hc, if_neg hd] at h
      simp only [List.cons_append, List.nil_append, List.cons.injEq, true_and] at h
      obtain ⟨h1, h2, h3⟩ := h
      have hcl := u8lt c
      have hdl := u8lt d
      have e1 := hx_val (c.toNat / 16) (by omega)
      have e2 := hx_val (d.toNat / 16) (by omega)
      have e3 := hx_val (c.toNat % 16) (by omega)
      have e4 := hx_val (d.toNat % 16) (by omega)
      rw [h1, e2] at e1
      rw [h2, e4] at e3
      have q1 := hxI_inj _ _ (by omega) (by omega) (by omega) (by omega) e1
      have q2 := hxI_inj _ _ (by omega) (by omega) (by omega) (by omega) e3
      refine ⟨?_, h3⟩
      apply UInt8.toNat_inj.1
      omega
/-- The encoding parts what differs. -/
theorem enc_inj : ∀ a b : List UInt8, enc a = enc b → a = b
  | [], [], _ => rfl
  | [], c :: l, h => by
    rw [enc_nil, enc_cons] at h
    have := enc1_lo c
    have h2 := congrArg List.length h
    rw [List.length_append] at h2
    simp only [List.length_nil] at h2
    omega
  | c :: l, [], h => by
    rw [enc_nil, enc_cons] at h
    have := enc1_lo c
    have h2 := congrArg List.length h
    rw [List.length_append] at h2
    simp only [List.length_nil] at h2
    omega
  | c :: l, d :: m, h => by
    rw [enc_cons, enc_cons] at h
    obtain ⟨h1, h2⟩ := enc1_ne c d _ _ h
    rw [h1, enc_inj l m h2]
theorem enc_beq (a b : List UInt8) : (enc a == enc b) = (a == b) := by
  rw [Bool.eq_iff_iff]
  simp only [beq_iff_eq]
  exact ⟨enc_inj a b, fun h => by rw [h]⟩
theorem hx_no (d : Nat) (h : d < 16) : ¬ hx d = 47 := by
  intro e
  have := hx_val d h
  rw [e] at this
  have e2 : (47 : UInt8).toNat = 47 := rfl
  rw [e2] at this
  unfold hxI at this
  split at this <;> omega
theorem enc1_slash (c : UInt8) : ¬ 47 ∈ enc1 c := by
  unfold enc1
  have := u8lt c
  split
  · rename_i h
    intro e
    simp only [List.mem_cons, List.not_mem_nil, or_false] at e
    rw [← e] at h
    revert h
    decide
  · intro e
    simp only [List.mem_cons, List.not_mem_nil, or_false] at e
    rcases e with e | e | e
    · revert e; decide
    · exact hx_no _ (by omega) e.symm
    · exact hx_no _ (by omega) e.symm
theorem enc_slash (l : List UInt8) : (enc l).contains 47 = false := by
  simp only [List.contains_eq_mem, decide_eq_false_iff_not]
  unfold enc
  rw [List.mem_flatMap]
  rintro ⟨c, _, h⟩
  exact enc1_slash c h

/-! ### What stands where in the encoding -/
theorem take_snoc (l : List UInt8) (k : Nat) (h : k < l.length) : l.take (k + 1) = l.take k ++ [l[k]] := List.take_succ_eq_append_getElem h
theorem enc_take (l : List UInt8) (k : Nat) (h : k < l.length) : enc (l.take (k + 1)) = enc (l.take k) ++ enc1 l[k] := by rw [take_snoc l k h, enc_snoc]
theorem enc_split (l : List UInt8) (k : Nat) (h : k < l.length) : enc l = enc (l.take k) ++ (enc1 l[k] ++ enc (l.drop (k + 1))) := by
  have : l = l.take k ++ (l[k] :: l.drop (k + 1)) := by rw [← List.drop_eq_getElem_cons h, List.take_append_drop]
  rw [← enc_cons, ← enc_append, ← this]
theorem at1 (l : List UInt8) (k : Nat) (h : k < l.length) (hu : unr l[k] = true) : (enc l)[(enc (l.take k)).length]? = some l[k] := by
  rw [enc_split l k h, List.getElem?_append_right (Nat.le_refl _), Nat.sub_self]
  unfold enc1
  rw [if_pos hu]
  rfl
theorem at3 (l : List UInt8) (k : Nat) (h : k < l.length) (hu : unr l[k] = false) :
    (enc l)[(enc (l.take k)).length]? = some 37 ∧ (enc l)[(enc (l.take k)).length + 1]? = some (hx (l[k].toNat / 16)) ∧ (enc l)[(enc (l.take k)).length + 2]? = some (hx (l[k].toNat % 16)) := by
  rw [enc_split l k h]
  unfold enc1
  rw [if_neg (by rw [hu]; simp)]
  refine ⟨?_, ?_, ?_⟩
  · rw [List.getElem?_append_right (Nat.le_refl _), Nat.sub_self]; rfl
  · rw [List.getElem?_append_right (by omega), show (enc (l.take k)).length + 1 - (enc (l.take k)).length = 1 by omega]; rfl
  · rw [List.getElem?_append_right (by omega), show (enc (l.take k)).length + 2 - (enc (l.take k)).length = 2 by omega]; rfl
theorem step1 (l : List UInt8) (k : Nat) (h : k < l.length) (hu : unr l[k] = true) : (enc (l.take (k + 1))).length = (enc (l.take k)).length + 1 := by
  rw [enc_take l k h, List.length_append]; unfold enc1; rw [if_pos hu]; rfl
theorem step3 (l : List UInt8) (k : Nat) (h : k < l.length) (hu : unr l[k] = false) : (enc (l.take (k + 1))).length = (enc (l.take k)).length + 3 := by
  rw [enc_take l k h, List.length_append]; unfold enc1; rw [if_neg (by rw [hu]; simp)]; rfl
theorem room (l : List UInt8) (k : Nat) : (enc (l.take (k + 1))).length ≤ (enc l).length := by
  have : enc l = enc (l.take (k + 1)) ++ enc (l.drop (k + 1)) := by rw [← enc_append, List.take_append_drop]
  rw [this, List.length_append]; omega
theorem below_end (l : List UInt8) (k : Nat) (h : k < l.length) : (enc (l.take k)).length < (enc l).length := by
  have h1 := room l k
  have h2 := enc1_lo l[k]
  rw [enc_take l k h, List.length_append] at h1
  omega
end Go.Proofs.Qxb6618073a.Pl
