/-
  THE CONTRACTS of connsOf and ZZConnsOfIDs, for every name.
-/
import Derived.Test.Qxb6618711aConnOf
namespace Go.Proofs.Qxb6618711a
open Go.RowKit
open Go.ChangeMaps (setBlock)

/-- The connections filed under a name. -/
def grpL : List Grp → ByteArray → List (Nat × Nat)
  | [], _ => []
  | g :: r, s => if g.s = s then g.l else grpL r s
theorem grpL_no {s : ByteArray} : ∀ {G : List Grp}, (∀ g ∈ G, ¬ g.s = s) → grpL G s = []
  | [], _ => rfl
  | g :: G, h => by
    rw [grpL, if_neg (h g (by simp))]
    exact grpL_no (fun g' hg' => h g' (by simp [hg']))
theorem grpL_yes {s : ByteArray} {g : Grp} {G2 : List Grp} (hg : g.s = s) : ∀ {G1 : List Grp}, (∀ g ∈ G1, ¬ g.s = s) → grpL (G1 ++ g :: G2) s = g.l
  | [], _ => by rw [List.nil_append, grpL, if_pos hg]
  | g' :: G1, h => by
    rw [List.cons_append, grpL, if_neg (h g' (by simp))]
    exact grpL_yes hg (fun g' hg' => h g' (by simp [hg']))
theorem grpL_swap {s : ByteArray} {g g' : Grp} {G2 : List Grp} (hs : g.s = g'.s) (hne : ¬ g.s = s) : ∀ {G1 : List Grp}, grpL (G1 ++ g :: G2) s = grpL (G1 ++ g' :: G2) s
  | [] => by rw [List.nil_append, List.nil_append, grpL, grpL, if_neg hne, if_neg (by rw [← hs]; exact hne)]
  | h :: G1 => by
    rw [List.cons_append, List.cons_append, grpL, grpL, grpL_swap hs hne]
theorem grpL_snoc {s : ByteArray} {g : Grp} (hne : ¬ g.s = s) : ∀ {G : List Grp}, grpL (G ++ [g]) s = grpL G s
  | [] => by
    show (if g.s = s then g.l else grpL [] s) = _
    rw [if_neg hne]
  | h :: G => by rw [List.cons_append, grpL, grpL, grpL_snoc hne]
theorem grp_split {s : ByteArray} : ∀ (G : List Grp), (∀ g ∈ G, ¬ g.s = s) ∨ ∃ G1 g G2, G = G1 ++ g :: G2 ∧ g.s = s ∧ ∀ g ∈ G1, ¬ g.s = s
  | [] => .inl (fun g hg => by cases hg)
  | g :: G => by
    by_cases h : g.s = s
    · exact .inr ⟨[], g, G, rfl, h, fun g hg => by cases hg⟩
    · rcases grp_split G with h1 | ⟨G1, g', G2, rfl, h2, h3⟩
      · left
        intro g' hg'
        rcases List.mem_cons.1 hg' with rfl | hm
        · exact h
        · exact h1 g' hm
      · right
        refine ⟨g :: G1, g', G2, rfl, h2, ?_⟩
        intro g'' hg''
        rcases List.mem_cons.1 hg'' with rfl | hm
        · exact h
        · exact h3 g'' hm
theorem grpL_held {w : World} {B R M : Nat} {G : List Grp} (h : J w B R M G) (s : ByteArray) : ∀ p ∈ grpL G s, ∃ cs, w.heap[p.1]? = some (.cells cs 100 (0, 0)) ∧ cs[75]? = some (.int .i64 (p.2 : Int)) := by
  intro p hp
  rcases grp_split (s := s) G with h1 | ⟨G1, g, G2, rfl, h2, h3⟩
  · rw [grpL_no h1] at hp; cases hp
  · rw [grpL_yes h2 h3] at hp
    exact h.held g (by simp) p hp

set_option maxRecDepth 100000 in
set_option maxHeartbeats 1600000 in
theorem of_none (B R M : Nat) (G : List Grp) (s : ByteArray) (w : World) (hJ : J w B R M G) (hs : ∀ g ∈ G, ¬ g.s = s) :
    Calls Try.prog 29 #[.pointer (some ⟨R, 0, none⟩), .string s] w fun e w' => ∃ (v' : Value), e = .returned v' ∧ w'.ownsRow w.heap.size 65 1 v' 0 [] ∧ Below w.heap.size w w' := by
  obtain ⟨i0, hi, hz0, hz1, hz2⟩ := info_parts info65
  have HJ := hideC hJ
  have HSS := hideC hs
  have hcw := hJ.cell
  clear hJ hs
  go_enter Try.func29, Try.ntmps29
  go_wp2_with (first
    | (at_lookup; refine wpList_lookup_run _ rfl (.tmp 10) (.tmp 11) 112 rfl _ _ (.map none) rfl rfl (look_no _ M _ G s HJ.out.outer HSS.out) ?_)
    | (at_len; refine wpList_len_run _ rfl (.tmp 12) 101 rfl _ _ rfl (len_none _ _) ?_)
    | (at_make; refine wpList_make_own _ rfl _ _ 121 rfl w.heap.size 65 i0 (.pointer none) 1 Try.underlying121 hi hz0 hz1 _ _ _ 0 rfl rfl rfl (by omega) (by unfold maxLen; omega) (Nat.le_refl _) ?_))
  intro w1 how hgr
  have hb1 : Below w.heap.size w w1 := (Below.refl _ _).grown hgr (Nat.le_refl _) (fun _ h => by cases h)
  have hJ1 := HJ.out.keep hb1
  have hcw1 := hJ1.cell
  have HJ1 := hideC hJ1
  have HB1 := hideC hb1
  have HO := hideC how
  have hnext := run_next_nilMap (P := Try.prog) w1 0 0 0 #[]
  clear hJ1 hb1 how hgr hcw
  go_wp2_with (first
    | (at_lookup; refine wpList_lookup_run _ rfl (.tmp 18) (.tmp 19) 112 rfl _ _ (.map none) rfl rfl (look_no _ M _ G s HJ1.out.outer HSS.out) ?_)
    | (at_range; refine wpList_range_run _ rfl (.tmp 20) 101 rfl _ _ rfl _ (run_range_nilMap _ 101 65 54 Try.underlying101) ?_))
  go_frame
  refine wp_loop_rounds 1 ?_
  rw [rounds_succ]
  go_wp2_with (at_next; refine wpList_next_run _ rfl (.tmp 21) rfl _ _ rfl _ hnext ?_)
  go_ret
  exact ⟨_, rfl, HO.out.alloc _, HB1.out.alloc HB1.out.size _⟩

/-- THE CONNECTIONS OF A NAME, each once, in whatever order. -/
theorem of_any (B R M : Nat) (G : List Grp) (s : ByteArray) (w : World) (hJ : J w B R M G) (hlen : (grpL G s).length ≤ 65536) :
    Calls Try.prog 29 #[.pointer (some ⟨R, 0, none⟩), .string s] w fun e w' => ∃ (v' : Value) (js : List Nat), e = .returned v' ∧ js.Nodup ∧ (∀ j ∈ js, j < (grpL G s).length) ∧ js.length = (grpL G s).length ∧ w'.ownsRow w.heap.size 65 1 v' js.length ((pick (grpL G s) js).map ptr) ∧ Below w.heap.size w w' := by
  rcases grp_split (s := s) G with h1 | ⟨G1, g, G2, rfl, h2, h3⟩
  · rw [grpL_no h1]
    refine (of_none B R M G s w hJ h1).mono ?_
    rintro e w' ⟨v', rfl, ho, hb⟩
    exact ⟨v', [], rfl, List.nodup_nil, (fun j hj => by cases hj), rfl, ho, hb⟩
  · rw [grpL_yes h2 h3] at hlen ⊢
    exact of_some B R M G1 G2 g s w hJ h2 h3 hlen

theorem info3i : (Try.prog.info? 3).map (fun i => (i.zero, i.size, i.bytes)) = some (some (.int .i64 0), 1, 8) := by kernel_rfl
def cellI (n : Nat) : Value := .int .i64 (n : Int)
/-- The first k tags laid. -/
def mixI (is : List Nat) (zs : List Value) (k : Nat) : List Value := (is.take k).map cellI ++ zs.drop k
theorem mixI_succ (is : List Nat) (zs : List Value) (k : Nat) (hk : k < is.length) (hz : zs.length = is.length) : mixI is zs (k + 1) = (mixI is zs k).set k (cellI (is.getD k 0)) := by
  unfold mixI
  rw [List.take_succ_eq_append_getElem hk, List.map_append, List.drop_eq_getElem_cons (by omega : k < zs.length), List.set_append_right _ _ (by simp; omega)]
  have e : k - ((is.take k).map cellI).length = 0 := by simp; omega
  rw [e, List.set_cons_zero]
  simp [List.getD, hk]
theorem mixI_end (is : List Nat) (zs : List Value) (k : Nat) (hk : ¬ k < is.length) (hz : zs.length = is.length) : mixI is zs k = is.map cellI := by
  unfold mixI
  rw [List.take_of_length_le (by omega), List.drop_eq_nil_of_le (by omega), List.append_nil]
theorem madeI_length (n : Nat) : (madeCells #[Value.int .i64 0] n).toList.length = n := by simp [madeCells]

set_option maxRecDepth 100000 in
set_option maxHeartbeats 1600000 in
theorem ids_any (B R M : Nat) (G : List Grp) (s : ByteArray) (w : World) (hJ : J w B R M G) (hlen : (grpL G s).length ≤ 65536) :
    Calls Try.prog 24 #[.pointer (some ⟨R, 0, none⟩), .string s] w fun e w' => ∃ (b : Nat) (js : List Nat), e = .returned (.slice (some ⟨b, 0, none⟩) js.length js.length) ∧ js.Nodup ∧ (∀ j ∈ js, j < (grpL G s).length) ∧ js.length = (grpL G s).length ∧ w'.ownsRow w.heap.size 3 1 (.slice (some ⟨b, 0, none⟩) js.length js.length) js.length (((pick (grpL G s) js).map Prod.snd).map cellI) ∧ Below w.heap.size w w' := by
  obtain ⟨i0, hi, hz0, hz1, hz2⟩ := info_parts info3i
  have HJ := hideC hJ
  clear hJ
  go_enter Try.func24, Try.ntmps24
  go_wp2_with fail
  refine (of_any B R M G s _ HJ.out hlen).mono ?_
  rintro e w1 ⟨v', js, rfl, hj1, hj2, hj3, ho, hb⟩
  have HJ1 := hideC hj1
  have HJ2 := hideC hj2
  have HJ3 := hideC hj3
  have HO := hideC ho
  have HB := hideC hb
  have hjl : js.length ≤ 65536 := by omega
  have HH := hideC (grpL_held (HJ.out.keep hb) s)
  have hpl : (pick (grpL G s) js).length = js.length := by unfold pick; simp
  have HPM : Hid (∀ p ∈ pick (grpL G s) js, p ∈ grpL G s) := by
    intro p hp
    unfold pick at hp
    obtain ⟨j, hj, rfl⟩ := List.mem_map.1 hp
    have := hj2 j hj
    simp only [List.getD, List.getElem?_eq_getElem this, Option.getD_some]
    exact List.getElem_mem _
  generalize hq : pick (grpL G s) js = q at *
  have hv : v' = .slice none 0 0 ∧ js.length = 0 ∨ ∃ gb cap, v' = .slice (some ⟨gb, 0, none⟩) js.length cap := by
    rcases ho.2 with h | ⟨gb, cap, cur, h, _⟩
    · exact .inl h
    · exact .inr ⟨gb, cap, h⟩
  have HQ := hideC hq
  have HPL := hideC hpl
  clear hq hj1 hj2 hj3 ho hb hpl
  rcases hv with ⟨hv, hn0⟩ | ⟨gb, cap, hv⟩
  · have hjs : js = [] := List.eq_nil_of_length_eq_zero hn0
    subst hv
    subst hjs
    go_wp2_with (at_make; refine wpList_make_full _ rfl _ _ 44 rfl w.heap.size 3 i0 (.int .i64 0) 1 Try.underlying44 hi hz0 hz1 _ _ _ _ 0 rfl rfl (by simp) (by simp) (by rw [hz2]; omega) (by unfold maxLen; omega) HB.out.size ?_)
    intro w2 how hgr
    have hb2 : Below w.heap.size w w2 := HB.out.grown hgr HB.out.size (fun _ h => by cases h)
    have HO2 : Hid (w2.ownsRow w.heap.size 3 1 (.slice (some ⟨w1.heap.size, 0, none⟩) 0 0) 0 []) := by
      have e : (madeCells #[Value.int .i64 0] 0).toList = [] := List.eq_nil_of_length_eq_zero (madeI_length 0)
      rw [e] at how
      exact how
    have HB2 := hideC hb2
    clear how hgr hb2
    go_wp2
    refine wp_loop_rounds 1 ?_
    rw [rounds_succ]
    go_wp2
    go_ret
    refine ⟨w1.heap.size, [], rfl, HJ1.out, HJ2.out, HJ3.out, ?_, HB2.out⟩
    exact HO2.out
  · subst hv
    go_wp2_with (at_make; refine wpList_make_full _ rfl _ _ 44 rfl w.heap.size 3 i0 (.int .i64 0) 1 Try.underlying44 hi hz0 hz1 _ _ _ _ js.length rfl rfl (by simp) (by simp) (by rw [hz2]; omega) (by unfold maxLen; omega) HB.out.size ?_)
    intro w2 how hgr
    have hml : (madeCells #[Value.int .i64 0] js.length).toList.length = js.length := madeI_length _
    generalize (madeCells #[Value.int .i64 0] js.length).toList = zs at *
    have hgb : gb < w1.heap.size := by
      rcases HO.out.2 with ⟨h, _⟩ | ⟨g', cap', cur, h', _, hgg, _⟩
      · simp at h
      · simp only [Value.slice.injEq, Option.some.injEq, Addr.mk.injEq, and_true, true_and] at h'
        rw [← h'.1] at hgg
        exact ltH hgg
    obtain ⟨is, his⟩ : ∃ is, is = q.map Prod.snd := ⟨_, rfl⟩
    have hil : is.length = js.length := by rw [his, List.length_map]; exact HPL.out
    have HIS := hideC his
    have HIL := hideC hil
    have HO2 : Hid (w2.ownsRow w.heap.size 3 1 (.slice (some ⟨w1.heap.size, 0, none⟩) js.length js.length) js.length (mixI is zs 0)) := by
      unfold Hid mixI
      simpa using how
    have HB2 : Hid (Below w1.heap.size w1 w2) := (Below.refl _ _).grown hgr (Nat.le_refl _) (fun _ h => by cases h)
    have HML := hideC hml
    clear how hgr hml his hil
    go_wp2
    go_loopw [7, 8, 17] (fun _ _ i wr => ∃ k : Nat, k ≤ js.length ∧ i = .int .i64 k ∧ wr.ownsRow w.heap.size 3 1 (.slice (some ⟨w1.heap.size, 0, none⟩) js.length js.length) js.length (mixI is zs k) ∧ Below w1.heap.size w1 wr) (fun _ _ i _ => js.length - (intOf i).toNat)
    case atStart => exact ⟨0, Nat.zero_le _, rfl, HO2.out, HB2.out⟩
    case round =>
      obtain ⟨k, hk, rfl, hown, hnx⟩ := hrel
      clear HO2 HB2
      have HO2 := hideC hown
      have HX := hideC hnx
      by_cases hlt : k < js.length
      · have hkq : k < q.length := by rw [HPL.out]; exact hlt
        have hc1 : wr.cell? ⟨gb, k, none⟩ = some (.pointer (some ⟨(q[k]).1, 0, none⟩)) := by
          rw [hnx.cell (p := ⟨gb, k, none⟩) hgb, HO.out.cellAt k (by omega)]
          simp [ptr, hkq]
        have hc2 : wr.cell? ⟨(q[k]).1, 75, none⟩ = some (.int .i64 ((q[k]).2 : Int)) := by
          obtain ⟨cs, h1, h2⟩ := HH.out _ (HPM.out _ (List.getElem_mem hkq))
          rw [hnx.cell (p := ⟨(q[k]).1, 75, none⟩) (ltH h1)]
          simp [World.cell?, h1, h2]
        have hgd : is.getD k 0 = (q[k]).2 := by rw [HIS.out]; simp [List.getD, hkq]
        have hf := hown.frozenAt k
        obtain ⟨u, hu⟩ : ∃ u, wr.cell? ⟨w1.heap.size, k, none⟩ = some u := by
          have := hown.cellAt k (by omega)
          have hl2 := hown.1
          exact ⟨(mixI is zs k)[k]'(by omega), by rw [this, List.getElem?_eq_getElem]⟩
        have i1 : (k : Int) < (js.length : Int) := by omega
        generalize (q[k]).1 = pb at *
        generalize (q[k]).2 = pi at *
        have HGD := hideC hgd
        clear hown hnx hgd hkq
        go_wp2
        go_roundw
        case rel =>
          have hst := HO2.out.stored k (.int .i64 (pi : Int))
          exact ⟨k + 1, by omega, by go_num, by rw [mixI_succ is zs k (by rw [HIL.out]; exact hlt) (by rw [HML.out, HIL.out]), HGD.out]; exact hst.1, HX.out.setCell (Nat.le_refl _) _⟩
        case measure => simp [intOf]; omega
      · clear hown hnx
        go_wp2
        go_ret
        refine ⟨w1.heap.size, js, rfl, HJ1.out, HJ2.out, HJ3.out, ?_, HB.out.trans (HX.out.mono HB.out.size)⟩
        have := HO2.out
        rw [mixI_end is zs k (by rw [HIL.out]; exact hlt) (by rw [HML.out, HIL.out]), HIS.out, ← HQ.out] at this
        exact this
end Go.Proofs.Qxb6618711a
