/-
  THE CONTRACT of connsOf: the group's connections, each once, in whatever order.
-/
import Derived.Test.Qxb6618711aConnFile
namespace Go.Proofs.Qxb6618711a
open Go.RowKit
open Go.ChangeMaps (setBlock)

theorem pig_le : ∀ (n : Nat) (js : List Nat), js.Nodup → (∀ j ∈ js, j < n) → js.length ≤ n
  | 0, js, _, h => by
    cases js with
    | nil => exact Nat.le_refl _
    | cons a l => exact absurd (h a (by simp)) (by omega)
  | n + 1, js, hn, h => by
    by_cases hm : n ∈ js
    · have := pig_le n (js.erase n) (hn.erase n) (fun j hj => by
        have h1 := h j (List.mem_of_mem_erase hj)
        have h2 : j ≠ n := by intro e; subst e; exact (List.Nodup.not_mem_erase hn) hj
        omega)
      rw [List.length_erase_of_mem hm] at this
      omega
    · have := pig_le n js hn (fun j hj => by
        have h1 := h j hj
        have h2 : j ≠ n := by intro e; subst e; exact hm hj
        omega)
      omega
theorem pig_ge : ∀ (n : Nat) (js : List Nat), (∀ j, j < n → j ∈ js) → n ≤ js.length
  | 0, _, _ => Nat.zero_le _
  | n + 1, js, h => by
    have hm := h n (by omega)
    have := pig_ge n (js.erase n) (fun j hj => (List.mem_erase_of_ne (by omega)).2 (h j (by omega)))
    rw [List.length_erase_of_mem hm] at this
    have hp : 0 < js.length := List.length_pos_of_mem hm
    omega

/-- The entries of an inner map: the j-th is born at j. -/
theorem conns_mem : ∀ (l : List (Nat × Nat)) (i : Nat) (e : MapEntry), e ∈ conns i l → ∃ j, ∃ h : j < l.length, e = ⟨.pointer (some ⟨(l[j]).1, 0, none⟩), .agg #[], i + j⟩
  | [], _, e, h => by simp [conns] at h
  | p :: l, i, e, h => by
    simp only [conns, List.mem_cons] at h
    rcases h with rfl | h
    · exact ⟨0, by simp, rfl⟩
    · obtain ⟨j, hj, he⟩ := conns_mem l (i + 1) e h
      refine ⟨j + 1, by simp; omega, ?_⟩
      rw [he]
      simp only [List.getElem_cons_succ, MapEntry.mk.injEq, true_and]
      omega
theorem conns_born : ∀ (l : List (Nat × Nat)) (i : Nat), (conns i l).map (·.born) = (List.range l.length).map (i + ·)
  | [], _ => rfl
  | p :: l, i => by
    simp only [conns, List.map_cons, List.length_cons]
    rw [conns_born l (i + 1), List.range_succ_eq_map]
    simp only [List.map_cons, List.map_map, Nat.add_zero, List.cons.injEq, true_and]
    apply List.map_congr_left
    intro a _
    simp
    omega
theorem conns_in : ∀ (l : List (Nat × Nat)) (i j : Nat) (h : j < l.length), (⟨.pointer (some ⟨(l[j]).1, 0, none⟩), .agg #[], i + j⟩ : MapEntry) ∈ conns i l
  | p :: l, i, 0, _ => by simp [conns]
  | p :: l, i, j + 1, h => by
    simp only [conns, List.mem_cons, List.getElem_cons_succ]
    right
    have := conns_in l (i + 1) j (by simpa using h)
    rw [show i + (j + 1) = i + 1 + j by omega]
    exact this

def ptr (p : Nat × Nat) : Value := .pointer (some ⟨p.1, 0, none⟩)
/-- The connections at the places js. -/
def pick (l : List (Nat × Nat)) (js : List Nat) : List (Nat × Nat) := js.map fun j => l.getD j (0, 0)
theorem pick_snoc (l : List (Nat × Nat)) (js : List Nat) (j : Nat) : pick l (js ++ [j]) = pick l js ++ [l.getD j (0, 0)] := by unfold pick; simp
theorem info65 : (Try.prog.info? 65).map (fun i => (i.zero, i.size, i.bytes)) = some (some (.pointer none), 1, 8) := by kernel_rfl

section
variable {P : Program} (w : World) {ops : Array Oper} {rest : List Oper} {o : Oper} {a : Act} {Q : Exit → Act → World → Prop}
theorem wpList_next_run (hg : o.guard = none) (it : Operand) (hop : o.op = Op.next it false) (iv v : Value) (hi : a.eval it = iv) (w' : World) (hrun : (Instr.next iv false o.type).run P w = .ok v w')
    (h : wpList P ops Q rest (a.put o.dst v) w') : wpList P ops Q (o :: rest) a w := by
  refine wpList_plain hg fun K' hK' => ?_
  unfold Oper.wp
  simp [execOp, hop, hi, hrun, Result.andThen]
  exact hK' _ _ h
end

theorem J.keep {w w' : World} {B R M : Nat} {G : List Grp} (h : J w B R M G) (hb : Below w.heap.size w w') : J w' B R M G := by
  have kp : ∀ k x, w.heap[k]? = some x → w'.heap[k]? = some x := fun k x hk => (hb.block k (ltH hk)).trans hk
  exact ⟨cell_keep h.cell (hb.block R h.rLt), kp _ _ h.outer, fun g hg => kp _ _ (h.inner g hg), fun g hg p hp => by obtain ⟨cs, h1, h2⟩ := h.held g hg p hp; exact ⟨cs, kp _ _ h1, h2⟩, h.names, h.blocks, h.apart, h.conn, h.lowM, h.lowC⟩

def lenOf : Value → Nat
  | .slice _ n _ => n
  | _ => 0

theorem conns_nodup (l : List (Nat × Nat)) : ((conns 0 l).toArray.toList.map (·.born)).Nodup := by
  rw [List.toList_toArray, conns_born]
  simp
  exact List.nodup_range

/-- THE STEP OF THE RANGE over an inner map: nothing is left, and all have come; or one more comes, whichever the tape says. -/
theorem next_conn (wr : World) (r c : Nat) (l : List (Nat × Nat)) (js : List Nat) (hn : js.Nodup) (hlt : ∀ j ∈ js, j < l.length) (hr : wr.heap[r]? = some (.mapIter (some c) l.length js.toArray l.length)) (hc : wr.heap[c]? = some (.map (conns 0 l).toArray l.length)) :
    (js.length = l.length ∧ (Instr.next (.pointer (some ⟨r, 0, none⟩)) false 0).run Try.prog wr = .ok (.tuple #[.bool false]) wr) ∨
    ∃ j wn, j < l.length ∧ ¬ j ∈ js ∧ (Instr.next (.pointer (some ⟨r, 0, none⟩)) false 0).run Try.prog wr = .ok (.tuple #[.bool true, ptr (l.getD j (0, 0)), .agg #[]]) wn ∧ wn.heap[r]? = some (.mapIter (some c) l.length (js ++ [j]).toArray l.length) ∧ wn.heap[c]? = some (.map (conns 0 l).toArray l.length) ∧
      (Instr.entry (.pointer (some ⟨r, 0, none⟩))).run Try.prog wn = .ok (.tuple #[ptr (l.getD j (0, 0)), .agg #[]]) wn ∧ wr.grownBy wn (some r) := by
  have hrl := ltH hr
  have hne : r ≠ c := by intro e; rw [e, hc] at hr; simp at hr
  rcases run_next_at (P := Try.prog) wr 0 r c l.length l.length js.toArray (conns 0 l).toArray l.length hr hc (by
    intro x hx
    obtain ⟨j, hj, rfl⟩ := conns_mem l 0 x (by simpa using hx)
    simp
    exact hj) (Nat.le_refl _) with ⟨h0, hrun⟩ | ⟨e, he, w1, hw1, hrun⟩
  · left
    refine ⟨?_, hrun⟩
    have hall := all_seen _ _ h0
    apply Nat.le_antisymm (pig_le _ _ hn hlt)
    apply pig_ge
    intro j hj
    have := hall _ (by rw [List.toList_toArray]; exact conns_in l 0 j hj)
    simpa using this
  · right
    obtain ⟨he1, he2⟩ := mem_left he
    obtain ⟨j, hj, hej⟩ := conns_mem l 0 e (by simpa using he1)
    rw [Nat.zero_add] at hej
    have hgd : l.getD j (0, 0) = l[j] := by simp [List.getD, hj]
    have hh : ∀ k : Nat, w1.heap[k]? = wr.heap[k]? := by intro k; rcases hw1 with rfl | rfl <;> rfl
    have hsz : w1.heap.size = wr.heap.size := by rcases hw1 with rfl | rfl <;> rfl
    refine ⟨j, setBlock w1 r (.mapIter (some c) l.length (js.toArray.push j) l.length), hj, ?_, ?_, ?_, ?_, ?_, ?_⟩
    · rw [hej] at he2
      simpa using he2
    · rw [hrun, hej, hgd]
      rfl
    · rw [sb_same _ (by rw [hsz]; exact hrl)]
      simp
    · rw [sb_other _ hne, hh, hc]
    · have := run_entry_at (P := Try.prog) (setBlock w1 r (.mapIter (some c) l.length (js.toArray.push j) l.length)) r c l.length js.toArray (conns 0 l).toArray l.length e
        (by rw [sb_same _ (by rw [hsz]; exact hrl), hej]) (by rw [sb_other _ hne, hh, hc]) he1 (conns_nodup l)
      rw [this, hej, hgd]
      rfl
    · refine ⟨?_, ?_, ?_, ?_, ?_⟩
      · rcases hw1 with rfl | rfl <;> rfl
      · rcases hw1 with rfl | rfl <;> rfl
      · rcases hw1 with rfl | rfl <;> rfl
      · rw [sb_size, hsz]; exact Nat.le_refl _
      · intro k _ hk
        rw [sb_other _ (by intro e; exact hk (by rw [e])), hh]

theorem js_snoc {js : List Nat} {n j : Nat} (h1 : js.Nodup) (h2 : ∀ x ∈ js, x < n) (hj : j < n) (hn : ¬ j ∈ js) : (js ++ [j]).Nodup ∧ ∀ x ∈ js ++ [j], x < n := by
  refine ⟨?_, ?_⟩
  · rw [List.nodup_append]
    refine ⟨h1, by simp, ?_⟩
    intro a ha b hb e
    simp only [List.mem_singleton] at hb
    subst hb
    subst e
    exact hn ha
  · intro x hx
    rcases List.mem_append.1 hx with h | h
    · exact h2 x h
    · simp only [List.mem_singleton] at h
      omega
theorem js_lt {js : List Nat} {n j : Nat} (h1 : js.Nodup) (h2 : ∀ x ∈ js, x < n) (hj : j < n) (hn : ¬ j ∈ js) : js.length < n := by
  have := js_snoc h1 h2 hj hn
  have h := pig_le n (js ++ [j]) this.1 this.2
  simp at h
  omega

set_option maxRecDepth 100000 in
set_option maxHeartbeats 1600000 in
theorem of_some (B R M : Nat) (G1 G2 : List Grp) (g : Grp) (s : ByteArray) (w : World) (hJ : J w B R M (G1 ++ g :: G2)) (hg : g.s = s) (hs : ∀ g ∈ G1, ¬ g.s = s) (hlen : g.l.length ≤ 65536) :
    Calls Try.prog 29 #[.pointer (some ⟨R, 0, none⟩), .string s] w fun e w' => ∃ (v' : Value) (js : List Nat), e = .returned v' ∧ js.Nodup ∧ (∀ j ∈ js, j < g.l.length) ∧ js.length = g.l.length ∧ w'.ownsRow w.heap.size 65 1 v' js.length ((pick g.l js).map ptr) ∧ Below w.heap.size w w' := by
  obtain ⟨i0, hi, hz0, hz1, hz2⟩ := info_parts info65
  have HJ := hideC hJ
  have HSS := hideC hs
  have HG := hideC hg
  have hcw := hJ.cell
  clear hJ hs hg
  go_enter Try.func29, Try.ntmps29
  go_wp2_with (first
    | (at_lookup; refine wpList_lookup_run _ rfl (.tmp 10) (.tmp 11) 112 rfl _ _ (.map (some g.c)) rfl rfl (look_yes _ M _ G1 G2 g s HJ.out.outer HG.out HSS.out) ?_)
    | (at_len; refine wpList_len_run _ rfl (.tmp 12) 101 rfl _ _ rfl (len_conn _ _ g.c g.l.length _ (HJ.out.inner g (by simp))) ?_)
    | (at_make; refine wpList_make_own _ rfl _ _ 121 rfl w.heap.size 65 i0 (.pointer none) 1 Try.underlying121 hi hz0 hz1 _ _ _ g.l.length rfl rfl (by simp [conns_length]) (by rw [hz2]; omega) (by unfold maxLen; omega) (Nat.le_refl _) ?_))
  intro w1 how hgr
  have hb1 : Below w.heap.size w w1 := (Below.refl _ _).grown hgr (Nat.le_refl _) (fun _ h => by cases h)
  have hJ1 := HJ.out.keep hb1
  have hcw1 := hJ1.cell
  have HJ1 := hideC hJ1
  have HB1 := hideC hb1
  have HO := hideC how
  have hw1 : w.heap.size < w1.heap.size := by
    rcases how.2 with ⟨h, _⟩ | ⟨g', cap', cur, h', _, hgg, _⟩
    · simp at h
    · simp only [Value.slice.injEq, Option.some.injEq, Addr.mk.injEq, and_true, true_and] at h'
      rw [← h'.1] at hgg
      exact ltH hgg
  clear hJ1 hb1 how hgr hcw
  go_wp2_with (first
    | (at_lookup; refine wpList_lookup_run _ rfl (.tmp 18) (.tmp 19) 112 rfl _ _ (.map (some g.c)) rfl rfl (look_yes _ M _ G1 G2 g s HJ1.out.outer HG.out HSS.out) ?_)
    | (at_range; refine wpList_range_run _ rfl (.tmp 20) 101 rfl _ _ rfl _ (range_conn _ g.c g.l.length _ (HJ1.out.inner g (by simp))) ?_))
  go_frame
  obtain ⟨r, hr⟩ : ∃ r, r = w1.heap.size := ⟨_, rfl⟩
  rw [← hr]
  have HR := hideC hr
  have HRI : Hid ((w1.alloc (.mapIter (some g.c) g.l.length #[] g.l.length)).heap[r]? = some (.mapIter (some g.c) g.l.length #[] g.l.length)) := by unfold Hid; rw [hr]; exact heap_alloc_new w1 _
  have hrB : w.heap.size < r := by omega
  clear hr hcw1
  go_loopw [5, 6] (fun v _ wr => ∃ js : List Nat, js.length ≤ g.l.length ∧ v = .slice (some ⟨w.heap.size, 0, none⟩) js.length g.l.length ∧ wr.ownsRow w.heap.size 65 1 v js.length ((pick g.l js).map ptr) ∧ Hid (js.Nodup ∧ ∀ j ∈ js, j < g.l.length) ∧ Hid (wr.heap[r]? = some (.mapIter (some g.c) g.l.length js.toArray g.l.length)) ∧ Hid (wr.heap[g.c]? = some (.map (conns 0 g.l).toArray g.l.length)) ∧ Below w.heap.size w wr) (fun v _ _ => g.l.length - lenOf v)
  case atStart => exact ⟨[], Nat.zero_le _, rfl, HO.out.alloc _, ⟨List.nodup_nil, fun j hj => by cases hj⟩, HRI.out, keepA (HJ1.out.inner g (by simp)) _, HB1.out.alloc (by omega) _⟩
  case round =>
    obtain ⟨js, hjl, rfl, hown, HN, HIT, HMP, hnx⟩ := hrel
    clear HRI HO
    rcases next_conn wr r g.c g.l js HN.out.1 HN.out.2 HIT.out HMP.out with ⟨hall, hrun⟩ | ⟨j, wn, hj, hjn, hrun, hit, hmp, hen, hgr⟩
    · have HALL := hideC hall
      have HRUN := hideC hrun
      have HO := hideC hown
      have HX := hideC hnx
      clear hall hrun hown hnx
      go_wp2_with (at_next; refine wpList_next_run _ rfl (.tmp 21) rfl _ _ rfl _ HRUN.out ?_)
      go_ret
      exact ⟨_, js, rfl, HN.out.1, HN.out.2, HALL.out, HO.out, HX.out⟩
    · have hnxt : Below w.heap.size w wn := hnx.grown hgr (by have := hnx.size; omega) (fun k hk => by cases hk; omega)
      have hown1 := hown.kept hgr (by right; simp [Value.ownBlock]; omega)
      have hsn := hnxt.size
      have HJS := hideC (js_snoc HN.out.1 HN.out.2 hj hjn)
      have hlt2 : js.length < g.l.length := js_lt HN.out.1 HN.out.2 hj hjn
      have HRUN := hideC hrun
      have HIT2 := hideC hit
      have HMP2 := hideC hmp
      have HRN := hideC (ltH hit)
      have HX := hideC hnxt
      have HCN := hideC (ltH (HJ.out.inner g (by simp)))
      unfold ptr at hen HRUN
      generalize hpv : g.l.getD j (0, 0) = pv at *
      have HPV := hideC hpv
      clear hrun hit hmp hgr hnx hnxt hown HIT HMP hpv
      go_wp2_with (first
        | (at_next; refine wpList_next_run _ rfl (.tmp 21) rfl _ _ rfl _ HRUN.out ?_)
        | (at_builtin; refine wpList_append_fits _ rfl (.tmp 26) (.tmp 28) 121 rfl w.heap.size 65 i0 1 Try.underlying121 hi hz1 w.heap.size js.length g.l.length _ rfl (hown1.alloc _) ⟨wn.heap.size, 0, none⟩ 1 1 [.pointer (some ⟨pv.1, 0, none⟩)] rfl rfl (cell_one_new _ _ _) (by simp [Value.oneCell']) (by omega) ?_))
      intro w2 hown2 hgr2
      have HR2 := hideC ((hgr2.block r (by simp; have := HRN.out; omega) (by simp; omega)).trans (keepA HIT2.out _))
      have HM2 := hideC ((hgr2.block g.c (by simp; have := HCN.out; omega) (by simp; have := HCN.out; omega)).trans (keepA HMP2.out _))
      have HX2 := hideC ((HX.out.alloc hsn _).grown hgr2 (by simp; omega) (fun k hk => by cases hk; exact Nat.le_refl _))
      have HO2 := hideC hown2
      clear hown2 hgr2 hown1 hen HIT2 HMP2 HX
      go_wp2
      go_roundw
      case rel =>
        refine ⟨js ++ [j], by simp; omega, by simp, ?_, HJS, HR2, HM2, HX2.out⟩
        have := HO2.out
        rw [pick_snoc, List.map_append, List.length_append, HPV.out]
        exact this
      case measure => simp [lenOf]; omega
end Go.Proofs.Qxb6618711a
