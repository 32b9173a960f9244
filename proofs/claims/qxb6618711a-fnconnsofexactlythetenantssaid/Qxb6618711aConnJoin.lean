/-
  THE CONTRACTS of New and ZZJoinNewConn.
-/
import Derived.Test.Qxb6618711aConnLaws
namespace Go.Proofs.Qxb6618711a
open Go.RowKit
open Go.ChangeMaps (setBlock)

theorem hideC {p : Prop} (h : p) : Hid p := h

theorem keepA {w : World} {k : Nat} {x : Obj} (h : w.heap[k]? = some x) (o : Obj) : (w.alloc o).heap[k]? = some x := by
  rw [Below.heap_alloc w o k (lt_of_heap h)]; exact h
where
  lt_of_heap {w : World} {k : Nat} {x : Obj} (h : w.heap[k]? = some x) : k < w.heap.size := (Array.getElem?_eq_some_iff.1 h).1
theorem ltH {w : World} {k : Nat} {x : Obj} (h : w.heap[k]? = some x) : k < w.heap.size := (Array.getElem?_eq_some_iff.1 h).1
theorem sb_same {w : World} {b : Nat} (o : Obj) (h : b < w.heap.size) : (setBlock w b o).heap[b]? = some o := by
  simp [setBlock, h]
theorem sb_other {w : World} {b k : Nat} (o : Obj) (h : b ≠ k) : (setBlock w b o).heap[k]? = w.heap[k]? := by
  simp [setBlock, h]
theorem sb_size (w : World) (b : Nat) (o : Obj) : (setBlock w b o).heap.size = w.heap.size := by simp [setBlock]
theorem below_sb {B : Nat} {a w : World} {b : Nat} (h : Below B a w) (hb : B ≤ b) (o : Obj) : Below B a (setBlock w b o) :=
  h.trans ⟨rfl, rfl, rfl, by rw [sb_size]; exact Nat.le_refl _, fun k hk => sb_other o (by omega)⟩

/-- THE ROUTER AND ITS GROUPS. -/
structure J (w : World) (B R M : Nat) (G : List Grp) : Prop where
  cell : w.cell? ⟨R, 13, none⟩ = some (.map (some M))
  outer : w.heap[M]? = some (.map (ents 0 G).toArray G.length)
  inner : ∀ g ∈ G, w.heap[g.c]? = some (.map (conns 0 g.l).toArray g.l.length)
  held : ∀ g ∈ G, ∀ p ∈ g.l, ∃ cs, w.heap[p.1]? = some (.cells cs 100 (0, 0)) ∧ cs[75]? = some (.int .i64 (p.2 : Int))
  names : (G.map Grp.s).Nodup
  blocks : (G.map Grp.c).Nodup
  apart : ∀ g ∈ G, ¬ g.c = M
  conn : ∀ g ∈ G, (g.l.map Prod.fst).Nodup
  lowM : B ≤ M
  lowC : ∀ g ∈ G, B ≤ g.c

theorem cellR {w : World} {R : Nat} {v : Value} (h : w.cell? ⟨R, 13, none⟩ = some v) : R < w.heap.size := by
  unfold World.cell? at h
  split at h
  · rename_i hb; exact ltH hb
  · simp at h
theorem J.rLt {w : World} {B R M : Nat} {G : List Grp} (h : J w B R M G) : R < w.heap.size := cellR h.cell

theorem mkchan (w : World) : (Instr.makeChan 74 (.int .i64 0)).run Try.prog w = .ok (.chan (some w.heap.size)) (w.alloc (.chan 0 #[] false 0 0 false)) := by kernel_rfl

set_option maxRecDepth 100000 in
set_option maxHeartbeats 800000 in
theorem newR_any (w : World) :
    Calls Try.prog 22 #[] w fun e w' => ∃ R M, e = .returned (.pointer (some ⟨R, 0, none⟩)) ∧ J w' w.heap.size R M [] ∧ Below w.heap.size w w' := by
  have hmm := @run_makeMap Try.prog
  have hch := mkchan
  go_enter Try.func22, Try.ntmps22
  go_wp2
  go_ret
  refine ⟨w.heap.size + 1 + 1 + 1 + 1 + 1, w.heap.size + 1 + 1 + 1, rfl, ?_, ?_⟩
  · refine ⟨?_, ?_, ?_, ?_, List.nodup_nil, List.nodup_nil, ?_, ?_, by omega, ?_⟩
    · have := World.cell?_alloc_new (w := ((((w.alloc (Obj.chan 0 #[] false 0 0 false)).alloc (Obj.map #[] 0)).alloc (Obj.map #[] 0)).alloc (Obj.map #[] 0)).alloc (Obj.map #[] 0)) #[Value.map none, Value.nilIface, Value.pointer none, Value.pointer none, Value.int IntKind.i64 4000000000,
        Value.int IntKind.i64 60000000000, Value.int IntKind.i32 0, Value.int IntKind.u32 0, Value.bool false,
        Value.chan (some w.heap.size), Value.nilIface, Value.map (some (w.heap.size + 1)),
        Value.map (some (w.heap.size + 1 + 1)), Value.map (some (w.heap.size + 1 + 1 + 1)),
        Value.map (some (w.heap.size + 1 + 1 + 1 + 1)), Value.int IntKind.u64 0, Value.int IntKind.u32 0] 120 13
      simp only [World.size_alloc] at this
      exact this
    · have h3 : (((w.alloc (Obj.chan 0 #[] false 0 0 false)).alloc (Obj.map #[] 0)).alloc (Obj.map #[] 0)).heap.size = w.heap.size + 1 + 1 + 1 := by simp only [World.size_alloc]
      have := heap_alloc_new (((w.alloc (Obj.chan 0 #[] false 0 0 false)).alloc (Obj.map #[] 0)).alloc (Obj.map #[] 0)) (Obj.map #[] 0)
      rw [h3] at this
      exact keepA (keepA this _) _
    · intro g hg; cases hg
    · intro g hg; cases hg
    · intro g hg; cases hg
    · intro g hg; cases hg
    · intro g hg; cases hg
  · have s1 := Below.refl w.heap.size w
    have s2 := s1.alloc (Nat.le_refl _) (Obj.chan 0 #[] false 0 0 false)
    have s3 := s2.alloc s2.size (Obj.map #[] 0)
    have s4 := s3.alloc s3.size (Obj.map #[] 0)
    have s5 := s4.alloc s4.size (Obj.map #[] 0)
    have s6 := s5.alloc s5.size (Obj.map #[] 0)
    exact s6.alloc s6.size _
end Go.Proofs.Qxb6618711a
