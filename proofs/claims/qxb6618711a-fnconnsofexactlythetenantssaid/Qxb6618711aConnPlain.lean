/-
  THE PLAIN FACTS of FnConnsOfExactlyTheTenants: the places of a name, the marks; THE JOIN, for every name.
-/
import Derived.Test.Qxb6618711aConnRd
namespace Go.Proofs.Qxb6618711a
open Go.RowKit

/-- The places below k that hold the name s. -/
def idx (T : List ByteArray) (s : ByteArray) : Nat → List Nat
  | 0 => []
  | k + 1 => if T.getD k ByteArray.empty = s then idx T s k ++ [k] else idx T s k
theorem idx_mem {T : List ByteArray} {s : ByteArray} : ∀ {k j : Nat}, j ∈ idx T s k → j < k ∧ T.getD j ByteArray.empty = s
  | 0, j, h => by cases h
  | k + 1, j, h => by
    unfold idx at h
    split at h
    · rename_i hs
      rcases List.mem_append.1 h with h | h
      · have := idx_mem h; exact ⟨by omega, this.2⟩
      · simp only [List.mem_singleton] at h
        subst h
        exact ⟨by omega, hs⟩
    · have := idx_mem h; exact ⟨by omega, this.2⟩
theorem idx_nodup (T : List ByteArray) (s : ByteArray) : ∀ k, (idx T s k).Nodup
  | 0 => List.nodup_nil
  | k + 1 => by
    unfold idx
    split
    · rw [List.nodup_append]
      refine ⟨idx_nodup T s k, by simp, ?_⟩
      intro a ha b hb e
      simp only [List.mem_singleton] at hb
      have := (idx_mem ha).1
      omega
    · exact idx_nodup T s k
theorem idx_le (T : List ByteArray) (s : ByteArray) (k : Nat) : (idx T s k).length ≤ k := pig_le k _ (idx_nodup T s k) (fun _ h => (idx_mem h).1)
theorem idx_yes {T : List ByteArray} {s : ByteArray} {k : Nat} (h : T.getD k ByteArray.empty = s) : idx T s (k + 1) = idx T s k ++ [k] := by rw [idx, if_pos h]
theorem idx_no {T : List ByteArray} {s : ByteArray} {k : Nat} (h : ¬ T.getD k ByteArray.empty = s) : idx T s (k + 1) = idx T s k := by rw [idx, if_neg h]

theorem nodup_getD {l : List Nat} (h : l.Nodup) {i j : Nat} (hi : i < l.length) (hj : j < l.length) (e : l.getD i 0 = l.getD j 0) : i = j := by
  simp only [List.getD, List.getElem?_eq_getElem hi, List.getElem?_eq_getElem hj, Option.getD_some] at e
  exact (List.getElem_inj h).1 e

/-- The tags at distinct places of a list without repeats do not repeat. -/
theorem tags_nodup {l : List Nat} (h : l.Nodup) : ∀ {js : List Nat}, js.Nodup → (∀ j ∈ js, j < l.length) → (js.map fun j => l.getD j 0).Nodup
  | [], _, _ => List.nodup_nil
  | j :: js, hn, hl => by
    rw [List.nodup_cons] at hn
    rw [List.map_cons, List.nodup_cons]
    refine ⟨?_, tags_nodup h hn.2 (fun j hj => hl j (by simp [hj]))⟩
    intro hm
    obtain ⟨i, hi, he⟩ := List.mem_map.1 hm
    have := nodup_getD h (hl i (by simp [hi])) (hl j (by simp)) he
    subst this
    exact hn.1 hi
theorem tags_eq (q : List (Nat × Nat)) (js : List Nat) : (pick q js).map Prod.snd = js.map fun j => (q.map Prod.snd).getD j 0 := by
  unfold pick
  rw [List.map_map]
  apply List.map_congr_left
  intro j _
  simp only [Function.comp, List.getD, List.getElem?_map]
  cases q[j]? <;> rfl
theorem tags_in {l js : List Nat} (hl : ∀ j ∈ js, j < l.length) : ∀ x ∈ js.map (fun j => l.getD j 0), x ∈ l := by
  intro x hx
  obtain ⟨j, hj, rfl⟩ := List.mem_map.1 hx
  have := hl j hj
  simp only [List.getD, List.getElem?_eq_getElem this, Option.getD_some]
  exact List.getElem_mem _

/-- The marks behind k tags. -/
def seenL (n : Nat) (ids : List Nat) (k : Nat) : List Value := (List.range n).map fun j => .bool (decide (j ∈ ids.take k))
theorem seenL_length (n : Nat) (ids : List Nat) (k : Nat) : (seenL n ids k).length = n := by simp [seenL]
theorem seenL_zero (n : Nat) (ids : List Nat) : seenL n ids 0 = (madeCells #[Value.bool false] n).toList := by
  apply List.ext_getElem
  · simp [seenL, madeCells]
  · intro i h1 h2
    simp [seenL, madeCells, Nat.mod_one]
theorem seenL_at {n : Nat} {ids : List Nat} {k : Nat} (hk : k < ids.length) (hn : ids.Nodup) (hlt : ids[k] < n) : (seenL n ids k)[ids[k]]? = some (.bool false) := by
  simp only [seenL, List.getElem?_map, List.getElem?_range hlt, Option.map_some]
  have : ¬ ids[k] ∈ ids.take k := by
    intro hm
    obtain ⟨i, hi, he⟩ := List.mem_take_iff_getElem.1 hm
    have := (List.getElem_inj hn).1 he
    omega
  simp [this]
theorem seenL_succ {n : Nat} {ids : List Nat} {k : Nat} (hk : k < ids.length) : seenL n ids (k + 1) = (seenL n ids k).set ids[k] (.bool true) := by
  apply List.ext_getElem
  · simp [seenL]
  · intro i h1 h2
    rw [List.getElem_set]
    have h' : i ∈ ids.take (k + 1) ↔ i ∈ ids.take k ∨ i = ids[k] := by
      rw [List.take_succ_eq_append_getElem hk, List.mem_append, List.mem_singleton]
    simp only [seenL, List.getElem_map, List.getElem_range, h']
    by_cases he : ids[k] = i
    · simp [he]
    · rw [if_neg he]
      have : ¬ i = ids[k] := fun e => he e.symm
      simp only [this, or_false]

/-- THE JOIN of the k-th name. -/
theorem join_any (B R M : Nat) (G : List Grp) (T : List ByteArray) (k : Nat) (t : ByteArray) (w : World) (ht : T.getD k ByteArray.empty = t) (hJ : J w B R M G) (hG : ∀ s, (grpL G s).map Prod.snd = idx T s k) (hB : B ≤ w.heap.size) :
    Calls Try.prog 23 #[.pointer (some ⟨R, 0, none⟩), .string t, .int .i64 (k : Int)] w fun e w' => e = .returned (.tuple #[]) ∧ (∃ G', J w' B R M G' ∧ ∀ s, (grpL G' s).map Prod.snd = idx T s (k + 1)) ∧ Below B w w' := by
  rcases grp_split (s := t) G with h1 | ⟨G1, g, G2, rfl, h2, h3⟩
  · refine (join_new B R M G t k w hJ h1 hB).mono ?_
    rintro e w' ⟨rfl, ⟨b, c, hJ'⟩, hbl⟩
    refine ⟨rfl, ⟨_, hJ', fun s => ?_⟩, hbl⟩
    by_cases hs : t = s
    · subst hs
      rw [idx_yes ht, ← hG, grpL_no h1, grpL_yes (g := ⟨t, c, [(b, k)]⟩) rfl h1]
      rfl
    · rw [idx_no (by rw [ht]; exact hs), ← hG, grpL_snoc (g := ⟨t, c, [(b, k)]⟩) hs]
  · refine (join_old B R M G1 G2 g t k w hJ h2 h3 hB).mono ?_
    rintro e w' ⟨rfl, ⟨b, hJ'⟩, hbl⟩
    refine ⟨rfl, ⟨_, hJ', fun s => ?_⟩, hbl⟩
    by_cases hs : t = s
    · subst hs
      rw [idx_yes ht, ← hG, grpL_yes h2 h3, grpL_yes (g := ⟨g.s, g.c, g.l ++ [(b, k)]⟩) h2 h3]
      simp
    · rw [idx_no (by rw [ht]; exact hs), ← hG, grpL_swap (g := ⟨g.s, g.c, g.l ++ [(b, k)]⟩) (g' := g) rfl (by show ¬ g.s = s; rw [h2]; exact hs)]

/-- The tags of a name: as many as its places, none twice, each a place of it. -/
theorem tags_law {G : List Grp} {T : List ByteArray} {s : ByteArray} {n : Nat} {js : List Nat} (hG : ∀ s, (grpL G s).map Prod.snd = idx T s n) (h1 : js.Nodup) (h2 : ∀ j ∈ js, j < (grpL G s).length) (h3 : js.length = (grpL G s).length) :
    ∃ ids, ids = (pick (grpL G s) js).map Prod.snd ∧ ids.length = (idx T s n).length ∧ ids.length = js.length ∧ ids.Nodup ∧ ∀ x ∈ ids, x < n ∧ T.getD x ByteArray.empty = s := by
  have hl : (idx T s n).length = (grpL G s).length := by rw [← hG, List.length_map]
  have e := tags_eq (grpL G s) js
  rw [hG] at e
  refine ⟨_, rfl, ?_, ?_, ?_, ?_⟩
  · rw [e, List.length_map, hl, h3]
  · rw [e, List.length_map]
  · rw [e]
    exact tags_nodup (idx_nodup T s n) h1 (fun j hj => by rw [hl]; exact h2 j hj)
  · intro x hx
    rw [e] at hx
    exact idx_mem (tags_in (fun j hj => by rw [hl]; exact h2 j hj) x hx)
end Go.Proofs.Qxb6618711a
