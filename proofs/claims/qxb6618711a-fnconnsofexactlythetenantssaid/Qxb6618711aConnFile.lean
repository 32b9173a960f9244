/-
  THE CONTRACT of ZZJoinNewConn.
-/
import Derived.Test.Qxb6618711aConnStep
namespace Go.Proofs.Qxb6618711a
open Go.RowKit
open Go.ChangeMaps (setBlock)

theorem zero75 : decide (75 < Try.zeroCells100.size) = true := by kernel_rfl
theorem conn75 (v : Value) (id : Int) : ((Try.zeroCells100.setIfInBounds 0 v).setIfInBounds 75 (.int .i64 id))[75]? = some (.int .i64 id) := by
  rw [Array.getElem?_setIfInBounds_self_of_lt (by simp)]

theorem newMap {w : World} {B R M : Nat} {G : List Grp} (h : J w B R M G) (o o2 : Obj) : (setBlock ((w.alloc o).alloc (.map #[] 0)) M o2).heap[w.heap.size + 1]? = some (.map (conns 0 []).toArray 0) := by
  have := ltH h.outer
  rw [sb_other _ (by omega)]
  have h2 := heap_alloc_new (w.alloc o) (.map #[] 0)
  rw [World.size_alloc] at h2
  exact h2
theorem newConn {w : World} {B R M : Nat} {G : List Grp} (h : J w B R M G) (C : Array Value) (o2 : Obj) : (setBlock ((w.alloc (.cells C 100)).alloc (.map #[] 0)) M o2).heap[w.heap.size]? = some (.cells C 100 (0, 0)) := by
  have := ltH h.outer
  rw [sb_other _ (by omega)]
  exact keepA (heap_alloc_new w _) _

theorem oldConns {w : World} {B R M : Nat} {G1 G2 : List Grp} {g : Grp} (h : J w B R M (G1 ++ g :: G2)) (o : Obj) : ∀ p ∈ g.l, w.heap.size ≠ p.1 ∧ ∃ cb, (w.alloc o).heap[p.1]? = some (.cells cb 100 (0, 0)) := by
  intro p hp
  obtain ⟨cs, h1, _⟩ := h.held g (by simp) p hp
  have := ltH h1
  exact ⟨by omega, cs, keepA h1 _⟩

set_option maxRecDepth 100000 in
set_option maxHeartbeats 1600000 in
theorem join_new (B R M : Nat) (G : List Grp) (s : ByteArray) (id : Nat) (w : World) (hJ : J w B R M G) (hs : ∀ g ∈ G, ¬ g.s = s) (hB : B ≤ w.heap.size) :
    Calls Try.prog 23 #[.pointer (some ⟨R, 0, none⟩), .string s, .int .i64 (id : Int)] w fun e w' => e = .returned (.tuple #[]) ∧ (∃ b c, J w' B R M (G ++ [⟨s, c, [(b, id)]⟩])) ∧ Below B w w' := by
  have HJ := hideC hJ
  have HSS := hideC hs
  have hrl := hJ.rLt
  have hc1 : ∀ o, (w.alloc o).cell? ⟨R, 13, none⟩ = some (.map (some M)) := fun o => cell_keep hJ.cell (Below.heap_alloc w o R hrl)
  have hc2 : ∀ o o', ((w.alloc o).alloc o').cell? ⟨R, 13, none⟩ = some (.map (some M)) := fun o o' => cell_keep (hc1 o) (Below.heap_alloc _ o' R (by simp; omega))
  have hnil := fun w r => run_eql_map_nil (P := Try.prog) w 101 65 54 r Try.underlying101
  have hmm := @run_makeMap Try.prog
  clear hJ hs hrl
  go_enter Try.func23, Try.ntmps23
  go_wp2_with (first
    | (at_lookup; refine wpList_lookup_run _ rfl (.tmp 19) (.tmp 20) 112 rfl _ _ (.map none) rfl rfl (look_no _ M G.length G s (keepA HJ.out.outer _) HSS.out) ?_)
    | (at_mapUpdate; refine wpList_put_run _ rfl (.tmp 28) (.tmp 29) (.tmp 30) 112 rfl _ _ _ rfl rfl rfl _ (put_new _ M G.length G s (w.heap.size + 1) (keepA (keepA HJ.out.outer _) _) HSS.out) ?_)
    | (at_mapUpdate; refine wpList_put_run _ rfl (.tmp 31) (.tmp 32) (.tmp 33) 101 rfl _ _ _ rfl rfl rfl _ (put_conn _ (w.heap.size + 1) 0 w.heap.size [] (newMap HJ.out _ _) (newConn HJ.out _ _) (fun p hp => by cases hp)) ?_))
  go_end0
  refine ⟨rfl, ⟨w.heap.size, w.heap.size + 1, ?_⟩, ?_⟩
  · have hj := HJ.out.joinNew s HSS.out _ id (conn75 (.pointer (some ⟨R, 0, none⟩)) id) hB
    rw [push_list, push_list] at hj
    exact hj
  · have s1 := (Below.refl B w).alloc hB (Obj.cells ((Try.zeroCells100.setIfInBounds 0 (Value.pointer (some ⟨R, 0, none⟩))).setIfInBounds 75 (Value.int IntKind.i64 id)) 100)
    have s2 := s1.alloc (Nat.le_trans hB s1.size) (Obj.map #[] 0)
    exact below_sb (below_sb s2 HJ.out.lowM _) (by omega) _

set_option maxRecDepth 100000 in
set_option maxHeartbeats 1600000 in
theorem join_old (B R M : Nat) (G1 G2 : List Grp) (g : Grp) (s : ByteArray) (id : Nat) (w : World) (hJ : J w B R M (G1 ++ g :: G2)) (hg : g.s = s) (hs : ∀ g ∈ G1, ¬ g.s = s) (hB : B ≤ w.heap.size) :
    Calls Try.prog 23 #[.pointer (some ⟨R, 0, none⟩), .string s, .int .i64 (id : Int)] w fun e w' => e = .returned (.tuple #[]) ∧ (∃ b, J w' B R M (G1 ++ ⟨g.s, g.c, g.l ++ [(b, id)]⟩ :: G2)) ∧ Below B w w' := by
  have HJ := hideC hJ
  have HSS := hideC hs
  have HG := hideC hg
  have hrl := hJ.rLt
  have hc1 : ∀ o, (w.alloc o).cell? ⟨R, 13, none⟩ = some (.map (some M)) := fun o => cell_keep hJ.cell (Below.heap_alloc w o R hrl)
  have hnil := fun w r => run_eql_map_nil (P := Try.prog) w 101 65 54 r Try.underlying101
  clear hJ hs hrl hg
  go_enter Try.func23, Try.ntmps23
  go_wp2_with (first
    | (at_lookup; refine wpList_lookup_run _ rfl (.tmp 19) (.tmp 20) 112 rfl _ _ (.map (some g.c)) rfl rfl (look_yes _ M _ G1 G2 g s (keepA HJ.out.outer _) HG.out HSS.out) ?_)
    | (at_mapUpdate; refine wpList_put_run _ rfl (.tmp 31) (.tmp 32) (.tmp 33) 101 rfl _ _ _ rfl rfl rfl _ (put_conn _ g.c g.l.length w.heap.size g.l (keepA (HJ.out.inner g (by simp)) _) (heap_alloc_new w _) (oldConns HJ.out _)) ?_))
  go_end0
  refine ⟨rfl, ⟨w.heap.size, ?_⟩, ?_⟩
  · have hj := HJ.out.joinOld _ id (conn75 (.pointer (some ⟨R, 0, none⟩)) id)
    rw [push_list] at hj
    exact hj
  · have s1 := (Below.refl B w).alloc hB (Obj.cells ((Try.zeroCells100.setIfInBounds 0 (Value.pointer (some ⟨R, 0, none⟩))).setIfInBounds 75 (Value.int IntKind.i64 id)) 100)
    exact below_sb s1 (HJ.out.lowC g (by simp)) _
end Go.Proofs.Qxb6618711a
