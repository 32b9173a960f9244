/-
  WHAT A JOIN DOES TO THE GROUPS.
-/
import Derived.Test.Qxb6618711aConnJoin
namespace Go.Proofs.Qxb6618711a
open Go.RowKit
open Go.ChangeMaps (setBlock)

theorem ents_same : ∀ (G H : List Grp) (i : Nat), G.map (fun g => (g.s, g.c)) = H.map (fun g => (g.s, g.c)) → ents i G = ents i H
  | [], [], _, _ => rfl
  | [], h :: H, _, e => by simp at e
  | g :: G, [], _, e => by simp at e
  | g :: G, h :: H, i, e => by
    simp only [List.map_cons, List.cons.injEq, Prod.mk.injEq] at e
    obtain ⟨⟨e1, e2⟩, e3⟩ := e
    simp only [ents, e1, e2, ents_same G H (i + 1) e3]

theorem push_list {α : Type} (l : List α) (x : α) : l.toArray.push x = (l ++ [x]).toArray := by simp

theorem cell_keep {w w' : World} {R : Nat} {v : Value} (h : w.cell? ⟨R, 13, none⟩ = some v) (hb : w'.heap[R]? = w.heap[R]?) : w'.cell? ⟨R, 13, none⟩ = some v := by
  rw [World.cell?_of_block (a := ⟨R, 13, none⟩) hb]; exact h
theorem cell_not_map {w : World} {R : Nat} {v : Value} (h : w.cell? ⟨R, 13, none⟩ = some v) {es : Array MapEntry} {ck : Nat} (hm : w.heap[R]? = some (.map es ck)) : False := by
  unfold World.cell? at h
  rw [hm] at h
  simp at h

theorem J.joinOld {w : World} {B R M : Nat} {G1 G2 : List Grp} {g : Grp} (h : J w B R M (G1 ++ g :: G2)) (C : Array Value) (id : Nat) (hC : C[75]? = some (.int .i64 (id : Int))) :
    J (setBlock (w.alloc (.cells C 100)) g.c (.map ((conns 0 g.l).toArray.push ⟨.pointer (some ⟨w.heap.size, 0, none⟩), .agg #[], g.l.length⟩) (g.l.length + 1))) B R M (G1 ++ ⟨g.s, g.c, g.l ++ [(w.heap.size, id)]⟩ :: G2) := by
  have hg : g ∈ G1 ++ g :: G2 := by simp
  have hgc := h.inner g hg
  have hgl := ltH hgc
  have hgM := h.apart g hg
  have hbl := h.blocks
  have oth : ∀ g' ∈ G1 ++ G2, ¬ g'.c = g.c := by
    intro g' hg' e
    simp only [List.map_append, List.map_cons, List.nodup_append, List.nodup_cons] at hbl
    obtain ⟨b1, ⟨b2, b3⟩, b4⟩ := hbl
    rcases List.mem_append.1 hg' with hm | hm
    · exact b4 g'.c (List.mem_map_of_mem hm) g.c (by simp) e
    · exact b2 (by rw [← e]; exact List.mem_map_of_mem hm)
  have keep : ∀ k x, w.heap[k]? = some x → ¬ g.c = k → (setBlock (w.alloc (.cells C 100)) g.c (.map ((conns 0 g.l).toArray.push ⟨.pointer (some ⟨w.heap.size, 0, none⟩), .agg #[], g.l.length⟩) (g.l.length + 1))).heap[k]? = some x := by
    intro k x hk hne
    rw [sb_other _ hne]
    exact keepA hk _
  have cells_ne : ∀ k cs, w.heap[k]? = some (.cells cs 100 (0, 0)) → ¬ g.c = k := by
    intro k cs hk e
    rw [← e, hgc] at hk
    simp at hk
  have mem' : ∀ g', g' ∈ G1 ++ (⟨g.s, g.c, g.l ++ [(w.heap.size, id)]⟩ : Grp) :: G2 → g' ∈ G1 ++ G2 ∨ g' = ⟨g.s, g.c, g.l ++ [(w.heap.size, id)]⟩ := by
    intro g' hg'
    simp only [List.mem_append, List.mem_cons] at hg' ⊢
    rcases hg' with h1 | h1 | h1
    · exact .inl (.inl h1)
    · exact .inr h1
    · exact .inl (.inr h1)
  have memo : ∀ g', g' ∈ G1 ++ G2 → g' ∈ G1 ++ g :: G2 := by
    intro g' hg'
    simp only [List.mem_append, List.mem_cons] at hg' ⊢
    rcases hg' with h1 | h1
    · exact .inl h1
    · exact .inr (.inr h1)
  refine ⟨?_, ?_, ?_, ?_, ?_, ?_, ?_, ?_, h.lowM, ?_⟩
  · refine cell_keep h.cell ?_
    rw [sb_other _ (by intro e; rw [e] at hgc; exact cell_not_map h.cell hgc), Below.heap_alloc w _ R h.rLt]
  · rw [keep _ _ h.outer hgM]
    rw [ents_same (G1 ++ (⟨g.s, g.c, g.l ++ [(w.heap.size, id)]⟩ : Grp) :: G2) (G1 ++ g :: G2) 0 (by simp)]
    simp
  · intro g' hg'
    rcases mem' g' hg' with hm | rfl
    · exact keep _ _ (h.inner g' (memo g' hm)) (fun e => oth g' hm e.symm)
    · simp only
      rw [sb_same _ (by simp; omega), push_list, conns_append]
      simp
  · intro g' hg' p hp
    rcases mem' g' hg' with hm | rfl
    · obtain ⟨cs, h1, h2⟩ := h.held g' (memo g' hm) p hp
      exact ⟨cs, keep _ _ h1 (cells_ne _ _ h1), h2⟩
    · simp only [List.mem_append, List.mem_singleton] at hp
      rcases hp with hp | rfl
      · obtain ⟨cs, h1, h2⟩ := h.held g hg p hp
        exact ⟨cs, keep _ _ h1 (cells_ne _ _ h1), h2⟩
      · refine ⟨C, ?_, hC⟩
        rw [sb_other _ (by simp only; omega)]
        exact heap_alloc_new w _
  · have := h.names
    simpa using this
  · have := h.blocks
    simpa using this
  · intro g' hg'
    rcases mem' g' hg' with hm | rfl
    · exact h.apart g' (memo g' hm)
    · exact hgM
  · intro g' hg'
    rcases mem' g' hg' with hm | rfl
    · exact h.conn g' (memo g' hm)
    · simp only [List.map_append, List.map_cons, List.map_nil]
      rw [List.nodup_append]
      refine ⟨h.conn g hg, by simp, ?_⟩
      intro a ha b hb e
      simp only [List.mem_singleton] at hb
      obtain ⟨p, hp, rfl⟩ := List.mem_map.1 ha
      obtain ⟨cs, h1, _⟩ := h.held g hg p hp
      have := ltH h1
      omega
  · intro g' hg'
    rcases mem' g' hg' with hm | rfl
    · exact h.lowC g' (memo g' hm)
    · exact h.lowC g hg

theorem J.joinNew {w : World} {B R M : Nat} {G : List Grp} (h : J w B R M G) (s : ByteArray) (hs : ∀ g ∈ G, ¬ g.s = s) (C : Array Value) (id : Nat) (hC : C[75]? = some (.int .i64 (id : Int))) (hB : B ≤ w.heap.size) :
    J (setBlock (setBlock ((w.alloc (.cells C 100)).alloc (.map #[] 0)) M (.map ((ents 0 G).toArray.push ⟨.string s, .map (some (w.heap.size + 1)), G.length⟩) (G.length + 1))) (w.heap.size + 1) (.map ((conns 0 []).toArray.push ⟨.pointer (some ⟨w.heap.size, 0, none⟩), .agg #[], 0⟩) (0 + 1))) B R M (G ++ [⟨s, w.heap.size + 1, [(w.heap.size, id)]⟩]) := by
  have hMl := ltH h.outer
  have keep : ∀ k x, w.heap[k]? = some x → ¬ M = k → (setBlock (setBlock ((w.alloc (.cells C 100)).alloc (.map #[] 0)) M (.map ((ents 0 G).toArray.push ⟨.string s, .map (some (w.heap.size + 1)), G.length⟩) (G.length + 1))) (w.heap.size + 1) (.map ((conns 0 []).toArray.push ⟨.pointer (some ⟨w.heap.size, 0, none⟩), .agg #[], 0⟩) (0 + 1))).heap[k]? = some x := by
    intro k x hk hne
    have := ltH hk
    rw [sb_other _ (by omega), sb_other _ hne]
    exact keepA (keepA hk _) _
  have cells_ne : ∀ k cs, w.heap[k]? = some (.cells cs 100 (0, 0)) → ¬ M = k := by
    intro k cs hk e
    rw [← e, h.outer] at hk
    simp at hk
  refine ⟨?_, ?_, ?_, ?_, ?_, ?_, ?_, ?_, h.lowM, ?_⟩
  · refine cell_keep h.cell ?_
    have := h.rLt
    rw [sb_other _ (by omega), sb_other _ (by intro e; have ho := h.outer; rw [e] at ho; exact cell_not_map h.cell ho), Below.heap_alloc _ _ R (by simp; omega), Below.heap_alloc w _ R h.rLt]
  · rw [sb_other _ (by omega), sb_same _ (by simp; omega), push_list, ents_append]
    simp
  · intro g' hg'
    rcases List.mem_append.1 hg' with hm | hm
    · exact keep _ _ (h.inner g' hm) (fun e => h.apart g' hm e.symm)
    · simp only [List.mem_singleton] at hm
      subst hm
      simp only
      rw [sb_same _ (by rw [sb_size]; simp)]
      rfl
  · intro g' hg' p hp
    rcases List.mem_append.1 hg' with hm | hm
    · obtain ⟨cs, h1, h2⟩ := h.held g' hm p hp
      exact ⟨cs, keep _ _ h1 (cells_ne _ _ h1), h2⟩
    · simp only [List.mem_singleton] at hm
      subst hm
      simp only [List.mem_singleton] at hp
      subst hp
      refine ⟨C, ?_, hC⟩
      simp only
      rw [sb_other _ (by omega), sb_other _ (by omega)]
      exact keepA (heap_alloc_new w _) _
  · rw [List.map_append, List.nodup_append]
    refine ⟨h.names, by simp, ?_⟩
    intro a ha b hb e
    simp only [List.map_cons, List.map_nil, List.mem_singleton] at hb
    obtain ⟨g, hg, rfl⟩ := List.mem_map.1 ha
    exact hs g hg (e.trans hb)
  · rw [List.map_append, List.nodup_append]
    refine ⟨h.blocks, by simp, ?_⟩
    intro a ha b hb e
    simp only [List.map_cons, List.map_nil, List.mem_singleton] at hb
    obtain ⟨g, hg, rfl⟩ := List.mem_map.1 ha
    have := ltH (h.inner g hg)
    omega
  · intro g' hg'
    rcases List.mem_append.1 hg' with hm | hm
    · exact h.apart g' hm
    · simp only [List.mem_singleton] at hm
      subst hm
      simp only
      omega
  · intro g' hg'
    rcases List.mem_append.1 hg' with hm | hm
    · exact h.conn g' hm
    · simp only [List.mem_singleton] at hm
      subst hm
      simp
  · intro g' hg'
    rcases List.mem_append.1 hg' with hm | hm
    · exact h.lowC g' hm
    · simp only [List.mem_singleton] at hm
      subst hm
      simp only
      omega
end Go.Proofs.Qxb6618711a
