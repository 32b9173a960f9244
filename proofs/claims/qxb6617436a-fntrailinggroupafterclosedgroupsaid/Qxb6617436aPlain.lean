/-
  PLAIN FACTS on the two readers of parentheses: no Go in sight.
-/
namespace Go.Proofs.Qxb6617436a.Pl

/-- The scan with a start and a depth: rest, is the next byte escaped, position, start, depth. -/
def tgo : List UInt8 → Bool → Nat → Int → Nat → Int
  | [], _, _, _, _ => -1
  | _ :: r, true, p, st, d => tgo r false (p + 1) st d
  | c :: r, false, p, st, d =>
    if c = 92 then tgo r true (p + 1) st d
    else if c = 40 then tgo r false (p + 1) (if d = 0 then (p : Int) else st) (d + 1)
    else if c = 41 then (if d = 0 then -1 else if d = 1 ∧ r = [] then st else tgo r false (p + 1) st (d - 1))
    else tgo r false (p + 1) st d

/-- The parentheses that stand for themselves: where, and is it one that opens. -/
def prs : List UInt8 → Bool → Nat → List (Nat × Bool)
  | [], _, _ => []
  | _ :: r, true, p => prs r false (p + 1)
  | c :: r, false, p =>
    if c = 92 then prs r true (p + 1)
    else if c = 40 then (p, true) :: prs r false (p + 1)
    else if c = 41 then (p, false) :: prs r false (p + 1)
    else prs r false (p + 1)

/-- The matcher with a stack (its top at the end). -/
def stk : List (Nat × Bool) → List Nat → Int → Int
  | [], op, last => if op = [] then last else -1
  | (p, true) :: ps, op, last => stk ps (op ++ [p]) last
  | (_, false) :: ps, op, _ => match op.getLast? with
    | none => -1
    | some q => stk ps op.dropLast (q : Int)

/-- What the stack model answers: the list of parentheses, the text's end. -/
def smod (ps : List (Nat × Bool)) (n : Nat) (op : List Nat) (last : Int) : Int :=
  match ps.getLast? with
  | none => -1
  | some (q, b) => if q + 1 = n ∧ b = false then stk ps op last else -1

theorem smod_nil (n : Nat) (op : List Nat) (last : Int) : smod [] n op last = -1 := rfl

theorem getLast?_cons_ne {α : Type} (a : α) (l : List α) (h : l ≠ []) : (a :: l).getLast? = l.getLast? := by
  cases l with
  | nil => exact absurd rfl h
  | cons b l => simp [List.getLast?_cons]

/-- The two readers agree. -/
theorem agree : ∀ (l : List UInt8) (esc : Bool) (p : Nat) (st : Int) (d : Nat) (op : List Nat) (last : Int), d = op.length → (∀ q, op.head? = some q → st = (q : Int)) →
    tgo l esc p st d = smod (prs l esc p) (p + l.length) op last
  | [], _, _, _, _, _, _, _, _ => by unfold tgo prs smod; rfl
  | _ :: r, true, p, st, d, op, last, hd, hs => by
    unfold tgo prs
    rw [agree r false (p + 1) st d op last hd hs, List.length_cons, show p + (r.length + 1) = p + 1 + r.length by omega]
  | c :: r, false, p, st, d, op, last, hd, hs => by
    have hlen : p + (c :: r).length = p + 1 + r.length := by rw [List.length_cons]; omega
    rw [hlen]
    unfold tgo prs
    by_cases h92 : c = 92
    · rw [if_pos h92, if_pos h92]
      exact agree r true (p + 1) st d op last hd hs
    rw [if_neg h92, if_neg h92]
    by_cases h40 : c = 40
    · rw [if_pos h40, if_pos h40]
      rw [agree r false (p + 1) _ (d + 1) (op ++ [p]) last (by simp [hd]) (by
        intro q hq
        cases op with
        | nil => simp at hq; subst hq; subst hd; simp
        | cons o os => simp at hq; subst hq; subst hd; simp; exact hs o rfl)]
      by_cases he : prs r false (p + 1) = []
      · rw [he]
        unfold smod
        simp
      · unfold smod
        rw [getLast?_cons_ne _ _ he]
        cases hg : (prs r false (p + 1)).getLast? with
        | none => rfl
        | some qb => rfl
    rw [if_neg h40, if_neg h40]
    by_cases h41 : c = 41
    · rw [if_pos h41, if_pos h41]
      by_cases hd0 : d = 0
      · rw [if_pos hd0]
        have : op = [] := List.eq_nil_of_length_eq_zero (by omega)
        subst this
        unfold smod
        split
        · rfl
        · split
          · rfl
          · rfl
      · rw [if_neg hd0]
        have hne : op ≠ [] := by intro e; subst e; simp at hd; exact hd0 hd
        obtain ⟨os, q, rfl⟩ : ∃ os q, op = os ++ [q] := ⟨op.dropLast, op.getLast hne, (List.dropLast_concat_getLast hne).symm⟩
        have hstk : ∀ ps, stk ((p, false) :: ps) (os ++ [q]) last = stk ps os (q : Int) := by
          intro ps
          simp [stk]
        by_cases hr : r = []
        · subst hr
          have hp : prs [] false (p + 1) = [] := rfl
          have hm : smod [(p, false)] (p + 1 + 0) (os ++ [q]) last = if os = [] then (q : Int) else -1 := by
            unfold smod
            simp only [List.getLast?_singleton, Nat.add_zero]
            rw [if_pos ⟨trivial, trivial⟩, hstk]
            rfl
          rw [hp, List.length_nil, hm]
          by_cases h1 : d = 1
          · have : os = [] := List.eq_nil_of_length_eq_zero (by simp at hd; omega)
            subst this
            rw [if_pos ⟨h1, rfl⟩, if_pos rfl]
            exact hs q rfl
          · rw [if_neg (by intro h; exact h1 h.1), if_neg (by intro e; subst e; simp at hd; exact h1 hd)]
            unfold tgo
            rfl
        · rw [if_neg (by intro h; exact hr h.2)]
          rw [agree r false (p + 1) st (d - 1) os (q : Int) (by simp at hd; omega) (by
            intro q' hq'
            cases os with
            | nil => simp at hq'
            | cons o os' => simp at hq'; subst hq'; exact hs o rfl)]
          by_cases he : prs r false (p + 1) = []
          · rw [he]
            unfold smod
            simp only [List.getLast?_singleton, List.getLast?_nil]
            rw [if_neg]
            intro h
            have : 0 < r.length := List.length_pos_iff.2 hr
            omega
          · unfold smod
            rw [getLast?_cons_ne _ _ he]
            cases hg : (prs r false (p + 1)).getLast? with
            | none => rfl
            | some qb => simp only [hstk]
    · rw [if_neg h41, if_neg h41]
      exact agree r false (p + 1) st d op last hd hs

/-! ### The escaped text -/
def sp (c : UInt8) : Bool := decide (c = 40 ∨ c = 41 ∨ c = 92)
def esc1 (c : UInt8) : List UInt8 := if sp c then [92, c] else [c]
def escL (l : List UInt8) : List UInt8 := l.flatMap esc1
theorem escL_snoc (l : List UInt8) (c : UInt8) : escL (l ++ [c]) = escL l ++ esc1 c := by unfold escL; simp
theorem escL_length (l : List UInt8) : (escL l).length ≤ 2 * l.length := by
  unfold escL
  induction l with
  | nil => exact Nat.le_refl _
  | cons a l ih =>
    rw [List.flatMap_cons, List.length_append, List.length_cons]
    have : (esc1 a).length ≤ 2 := by unfold esc1; split <;> simp
    omega

theorem tgo_esc (r : List UInt8) (st : Int) (d : Nat) : ∀ (l : List UInt8) (p : Nat), tgo (escL l ++ r) false p st d = tgo r false (p + (escL l).length) st d
  | [], p => rfl
  | c :: l, p => by
    have e : escL (c :: l) = esc1 c ++ escL l := by unfold escL; rw [List.flatMap_cons]
    rw [e, List.append_assoc, List.length_append]
    unfold esc1
    by_cases hs : sp c = true
    · rw [if_pos hs]
      show tgo (92 :: c :: (escL l ++ r)) false p st d = _
      rw [tgo, if_pos rfl, tgo, tgo_esc r st d l (p + 1 + 1)]
      simp only [List.length_cons, List.length_nil]
      rw [show p + 1 + 1 + (escL l).length = p + (0 + 1 + 1 + (escL l).length) by omega]
    · rw [if_neg hs]
      show tgo (c :: (escL l ++ r)) false p st d = _
      unfold sp at hs
      simp only [decide_eq_true_eq, not_or] at hs
      rw [tgo, if_neg hs.2.2, if_neg hs.1, if_neg hs.2.1, tgo_esc r st d l (p + 1)]
      simp only [List.length_cons, List.length_nil]
      rw [show p + 1 + (escL l).length = p + (0 + 1 + (escL l).length) by omega]

/-- The scan answers -1 or a position. -/
theorem tgo_lo : ∀ (l : List UInt8) (esc : Bool) (p : Nat) (st : Int) (d : Nat), (d = 0 ∨ 0 ≤ st) → tgo l esc p st d = -1 ∨ 0 ≤ tgo l esc p st d
  | [], _, _, _, _, _ => by left; rw [tgo]
  | _ :: r, true, p, st, d, h => by rw [tgo]; exact tgo_lo r false (p + 1) st d h
  | c :: r, false, p, st, d, h => by
    rw [tgo]
    by_cases h92 : c = 92
    · rw [if_pos h92]; exact tgo_lo r true (p + 1) st d h
    rw [if_neg h92]
    by_cases h40 : c = 40
    · rw [if_pos h40]
      refine tgo_lo r false (p + 1) _ (d + 1) (.inr ?_)
      split
      · omega
      · rcases h with h | h
        · contradiction
        · exact h
    rw [if_neg h40]
    by_cases h41 : c = 41
    · rw [if_pos h41]
      split
      · left; rfl
      · rename_i hd
        split
        · right; rcases h with h | h
          · contradiction
          · exact h
        · exact tgo_lo r false (p + 1) st (d - 1) (by rcases h with h | h; · contradiction
                                                      · exact .inr h)
    · rw [if_neg h41]; exact tgo_lo r false (p + 1) st d h

/-- The scan, q places further on. -/
theorem tgo_shift (q : Nat) : ∀ (l : List UInt8) (esc : Bool) (p : Nat) (st st' : Int) (d : Nat), (d = 0 ∨ (0 ≤ st ∧ st' = st + q)) →
    tgo l esc (p + q) st' d = if tgo l esc p st d < 0 then -1 else tgo l esc p st d + q
  | [], _, _, _, _, _, _ => by rw [tgo, tgo]; rfl
  | _ :: r, true, p, st, st', d, h => by
    rw [tgo, tgo, show p + q + 1 = p + 1 + q by omega]; exact tgo_shift q r false (p + 1) st st' d h
  | c :: r, false, p, st, st', d, h => by
    rw [tgo, tgo, show p + q + 1 = p + 1 + q by omega]
    by_cases h92 : c = 92
    · rw [if_pos h92, if_pos h92]; exact tgo_shift q r true (p + 1) st st' d h
    rw [if_neg h92, if_neg h92]
    by_cases h40 : c = 40
    · rw [if_pos h40, if_pos h40]
      refine tgo_shift q r false (p + 1) _ _ (d + 1) (.inr ?_)
      by_cases hd : d = 0
      · rw [if_pos hd, if_pos hd]; omega
      · rw [if_neg hd, if_neg hd]
        rcases h with h | h
        · contradiction
        · exact h
    rw [if_neg h40, if_neg h40]
    by_cases h41 : c = 41
    · rw [if_pos h41, if_pos h41]
      by_cases hd : d = 0
      · rw [if_pos hd, if_pos hd]; rfl
      · rw [if_neg hd, if_neg hd]
        have h' : 0 ≤ st ∧ st' = st + q := by rcases h with h | h; · contradiction
                                              · exact h
        by_cases hr : d = 1 ∧ r = []
        · rw [if_pos hr, if_pos hr, if_neg (by omega), h'.2]
        · rw [if_neg hr, if_neg hr]
          exact tgo_shift q r false (p + 1) st st' (d - 1) (.inr h')
    · rw [if_neg h41, if_neg h41]; exact tgo_shift q r false (p + 1) st st' d h

/-- A group that is closed: what follows it is read as if it stood alone. -/
theorem closed (a b t : List UInt8) : tgo (escL a ++ [40] ++ escL b ++ [41] ++ t) false 0 (-1) 0 =
    if t = [] then ((escL a).length : Int) else if tgo t false 0 (-1) 0 < 0 then -1 else ((escL a ++ [40] ++ escL b ++ [41]).length : Int) + tgo t false 0 (-1) 0 := by
  have e : escL a ++ [40] ++ escL b ++ [41] ++ t = escL a ++ (40 :: (escL b ++ (41 :: t))) := by simp
  rw [e, tgo_esc, tgo, if_neg (by decide), if_pos rfl, if_pos rfl, tgo_esc, tgo, if_neg (by decide), if_neg (by decide), if_pos rfl, if_neg (by omega)]
  by_cases ht : t = []
  · subst ht
    rw [if_pos ⟨rfl, rfl⟩, if_pos rfl]
    simp
  · rw [if_neg (by intro h; exact ht h.2), if_neg ht]
    have hs := tgo_shift (0 + (escL a).length + 1 + (escL b).length + 1) t false 0 (-1) ((0 + (escL a).length : Nat) : Int) 0 (.inl rfl)
    rw [Nat.zero_add] at hs
    rw [show 0 + 1 - 1 = 0 from rfl, hs]
    split
    · rfl
    · simp only [List.length_append, List.length_cons, List.length_nil]
      omega

/-! ### One step of the scan at place k -/
theorem drop_at (l : List UInt8) (k : Nat) (h : k < l.length) : l.drop k = l[k] :: l.drop (k + 1) := List.drop_eq_getElem_cons h
theorem tgo_skip (l : List UInt8) (k p : Nat) (st : Int) (d : Nat) : tgo (l.drop k) true p st d = tgo (l.drop (k + 1)) false (p + 1) st d := by
  by_cases h : k < l.length
  · rw [drop_at l k h, tgo]
  · rw [List.drop_eq_nil_of_le (by omega), List.drop_eq_nil_of_le (by omega), tgo, tgo]
theorem tgo_92 (l : List UInt8) (k : Nat) (st : Int) (d : Nat) (h : k < l.length) (hc : l[k] = 92) : tgo (l.drop k) false k st d = tgo (l.drop (k + 1 + 1)) false (k + 1 + 1) st d := by
  rw [drop_at l k h, tgo, if_pos hc, tgo_skip]
theorem tgo_40 (l : List UInt8) (k : Nat) (st : Int) (d : Nat) (h : k < l.length) (hc : l[k] = 40) : tgo (l.drop k) false k st d = tgo (l.drop (k + 1)) false (k + 1) (if d = 0 then (k : Int) else st) (d + 1) := by
  rw [drop_at l k h, tgo, if_neg (by rw [hc]; decide), if_pos hc]
theorem tgo_41 (l : List UInt8) (k : Nat) (st : Int) (d : Nat) (h : k < l.length) (hc : l[k] = 41) :
    tgo (l.drop k) false k st d = if d = 0 then -1 else if d = 1 ∧ k + 1 = l.length then st else tgo (l.drop (k + 1)) false (k + 1) st (d - 1) := by
  rw [drop_at l k h, tgo, if_neg (by rw [hc]; decide), if_neg (by rw [hc]; decide), if_pos hc]
  have : l.drop (k + 1) = [] ↔ k + 1 = l.length := by rw [List.drop_eq_nil_iff]; omega
  simp only [this]
theorem tgo_else (l : List UInt8) (k : Nat) (st : Int) (d : Nat) (h : k < l.length) (h1 : l[k] ≠ 92) (h2 : l[k] ≠ 40) (h3 : l[k] ≠ 41) : tgo (l.drop k) false k st d = tgo (l.drop (k + 1)) false (k + 1) st d := by
  rw [drop_at l k h, tgo, if_neg h1, if_neg h2, if_neg h3]
theorem tgo_end (l : List UInt8) (k : Nat) (st : Int) (d : Nat) (h : ¬ k < l.length) : tgo (l.drop k) false k st d = -1 := by
  rw [List.drop_eq_nil_of_le (by omega), tgo]

theorem prs_skip (l : List UInt8) (k p : Nat) : prs (l.drop k) true p = prs (l.drop (k + 1)) false (p + 1) := by
  by_cases h : k < l.length
  · rw [drop_at l k h, prs]
  · rw [List.drop_eq_nil_of_le (by omega), List.drop_eq_nil_of_le (by omega), prs, prs]
theorem prs_92 (l : List UInt8) (k : Nat) (h : k < l.length) (hc : l[k] = 92) : prs (l.drop k) false k = prs (l.drop (k + 1 + 1)) false (k + 1 + 1) := by
  rw [drop_at l k h, prs, if_pos hc, prs_skip]
theorem prs_40 (l : List UInt8) (k : Nat) (h : k < l.length) (hc : l[k] = 40) : prs (l.drop k) false k = (k, true) :: prs (l.drop (k + 1)) false (k + 1) := by
  rw [drop_at l k h, prs, if_neg (by rw [hc]; decide), if_pos hc]
theorem prs_41 (l : List UInt8) (k : Nat) (h : k < l.length) (hc : l[k] = 41) : prs (l.drop k) false k = (k, false) :: prs (l.drop (k + 1)) false (k + 1) := by
  rw [drop_at l k h, prs, if_neg (by rw [hc]; decide), if_neg (by rw [hc]; decide), if_pos hc]
theorem prs_else (l : List UInt8) (k : Nat) (h : k < l.length) (h1 : l[k] ≠ 92) (h2 : l[k] ≠ 40) (h3 : l[k] ≠ 41) : prs (l.drop k) false k = prs (l.drop (k + 1)) false (k + 1) := by
  rw [drop_at l k h, prs, if_neg h1, if_neg h2, if_neg h3]
theorem prs_end (l : List UInt8) (k : Nat) (h : ¬ k < l.length) : prs (l.drop k) false k = [] := by
  rw [List.drop_eq_nil_of_le (by omega), prs]
/-- What the list of parentheses holds. -/
theorem prs_mem : ∀ (l : List UInt8) (esc : Bool) (p q : Nat) (b : Bool), (q, b) ∈ prs l esc p → p ≤ q ∧ ∃ h : q - p < l.length, l[q - p] = (if b then 40 else 41)
  | [], esc, p, q, b, h => by cases esc <;> simp [prs] at h
  | c :: r, true, p, q, b, h => by
    rw [prs] at h
    obtain ⟨h1, h2, h3⟩ := prs_mem r false (p + 1) q b h
    refine ⟨by omega, by simp; omega, ?_⟩
    rw [← h3]
    have : q - p = (q - (p + 1)) + 1 := by omega
    simp only [this, List.getElem_cons_succ]
  | c :: r, false, p, q, b, h => by
    have go : ∀ e, (q, b) ∈ prs r e (p + 1) → p ≤ q ∧ ∃ h : q - p < (c :: r).length, (c :: r)[q - p] = (if b then 40 else 41) := by
      intro e h
      obtain ⟨h1, h2, h3⟩ := prs_mem r e (p + 1) q b h
      refine ⟨by omega, by simp; omega, ?_⟩
      rw [← h3]
      have : q - p = (q - (p + 1)) + 1 := by omega
      simp only [this, List.getElem_cons_succ]
    rw [prs] at h
    split at h
    · exact go _ h
    · split at h
      · rename_i hc
        rcases List.mem_cons.1 h with h | h
        · injection h with h1 h2
          subst h1 h2
          refine ⟨Nat.le_refl _, by simp, ?_⟩
          simp [hc]
        · exact go _ h
      · split at h
        · rename_i hc
          rcases List.mem_cons.1 h with h | h
          · injection h with h1 h2
            subst h1 h2
            refine ⟨Nat.le_refl _, by simp, ?_⟩
            simp [hc]
          · exact go _ h
        · exact go _ h
theorem prs_length : ∀ (l : List UInt8) (esc : Bool) (p : Nat), (prs l esc p).length ≤ l.length
  | [], esc, p => by cases esc <;> simp [prs]
  | _ :: r, true, p => by rw [prs]; have := prs_length r false (p + 1); simp; omega
  | c :: r, false, p => by
    have h1 := prs_length r false (p + 1)
    have h2 := prs_length r true (p + 1)
    rw [prs]
    split
    · simp; omega
    · split
      · simp; omega
      · split
        · simp; omega
        · simp; omega
end Go.Proofs.Qxb6617436a.Pl
