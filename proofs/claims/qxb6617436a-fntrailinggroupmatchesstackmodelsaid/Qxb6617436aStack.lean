/-
  THE CONTRACT of tgStackModel.
-/
import Derived.Test.Qxb6617436aLeaf
namespace Go.Proofs.Qxb6617436a
open Go.RowKit

theorem info3 : (Try.prog.info? 3).map (fun i => (i.zero, i.size, i.bytes)) = some (some (.int .i64 0), 1, 8) := by kernel_rfl
/-- Places as cells. -/
def cellsN (l : List Nat) : List Value := l.map fun (q : Nat) => Value.int .i64 (q : Int)
theorem cellsN_snoc (l : List Nat) (q : Nat) : cellsN l ++ [Value.int .i64 (q : Int)] = cellsN (l ++ [q]) := by unfold cellsN; simp
theorem cellsN_length (l : List Nat) : (cellsN l).length = l.length := by unfold cellsN; simp
theorem below_own {B : Nat} {w wr w3 : World} {o : Obj} {v : Value} {e : TypeId} {size n : Nat} {xs : List Value} (h : Below B w wr) (hB : B ≤ w.heap.size) (hown : wr.ownsRow B e size v n xs) (hg : (wr.alloc o).grownBy w3 v.ownBlock) : Below B w w3 :=
  (h.alloc (by have := h.size; omega) o).grown hg (by simp; have := h.size; omega) (fun k hk => (hown.lt k hk).1)

theorem gather {G : List (Nat × Bool)} {n : Nat} {xs : List Value} (h : n = G.length ∧ xs = cellsN (G.map Prod.fst)) (k : Nat) (b : Bool) : n + 1 = (G ++ [(k, b)]).length ∧ xs ++ [Value.int .i64 (k : Int)] = cellsN ((G ++ [(k, b)]).map Prod.fst) := by
  obtain ⟨rfl, rfl⟩ := h
  refine ⟨by simp, ?_⟩
  rw [List.map_append]
  exact cellsN_snoc _ _
theorem gather_rest {G P Q R : List (Nat × Bool)} {x : Nat × Bool} (h : P = x :: Q) (hg : G ++ P = R) : G ++ [x] ++ Q = R := by
  rw [← hg, h]; simp

theorem prs_facts (s : ByteArray) : ∀ q b, (q, b) ∈ Pl.prs s.data.toList false 0 → q < s.size ∧ s.data.toList[q]? = some (if b then 40 else 41) := by
  intro q b h
  obtain ⟨_, h2, h3⟩ := Pl.prs_mem _ _ _ _ _ h
  rw [Nat.sub_zero] at h2
  refine ⟨by rw [← len_list]; exact h2, ?_⟩
  rw [List.getElem?_eq_getElem h2, ← h3]
  simp
theorem smod_none {PS : List (Nat × Bool)} (h : PS = []) (n : Nat) : -1 = Pl.smod PS n [] (-1) := by subst h; rfl
theorem smod_no {PS : List (Nat × Bool)} {n q : Nat} {b : Bool} (h : PS.getLast? = some (q, b)) (hne : ¬ q + 1 = n ∨ b = true) : -1 = Pl.smod PS n [] (-1) := by
  unfold Pl.smod
  rw [h]
  simp only
  rw [if_neg]
  rintro ⟨h1, h2⟩
  rcases hne with h | h
  · exact h h1
  · rw [h] at h2; cases h2
theorem smod_yes {PS : List (Nat × Bool)} {n q : Nat} (h : PS.getLast? = some (q, false)) (he : q + 1 = n) : Pl.smod PS n [] (-1) = Pl.stk PS [] (-1) := by
  unfold Pl.smod
  rw [h]
  simp only
  rw [if_pos ⟨he, trivial⟩]
theorem nth_cell {wr : World} {B g cap : Nat} {PS : List (Nat × Bool)} (h : wr.ownsRow B 3 1 (.slice (some ⟨g, 0, none⟩) PS.length cap) PS.length (cellsN (PS.map Prod.fst))) (i : Nat) (hi : i < PS.length) :
    wr.cell? ⟨g, i, none⟩ = some (.int .i64 (PS[i].1 : Int)) := by
  rw [h.cellAt i (by omega)]
  unfold cellsN
  simp [hi]
theorem last_cell {wr : World} {B g cap q : Nat} {b : Bool} {PS : List (Nat × Bool)} (hq : PS.getLast? = some (q, b)) (h : wr.ownsRow B 3 1 (.slice (some ⟨g, 0, none⟩) PS.length cap) PS.length (cellsN (PS.map Prod.fst))) :
    wr.cell? ⟨g, PS.length - 1, none⟩ = some (.int .i64 (q : Int)) := by
  rw [List.getLast?_eq_getElem?] at hq
  obtain ⟨hlt, hx⟩ := List.getElem?_eq_some_iff.1 hq
  rw [nth_cell h _ hlt, hx]

theorem last_char {s : ByteArray} {q : Nat} {b : Bool} {h : s.size - 1 < s.size} (hq : s.size - 1 = q) (hx : s.data.toList[q]? = some (if b then 40 else 41)) : s[s.size - 1]'h = if b then 40 else 41 := by
  subst hq
  obtain ⟨h1, h2⟩ := List.getElem?_eq_some_iff.1 hx
  exact h2

theorem any_char {s : ByteArray} {q : Nat} {b : Bool} {h : q < s.size} (hx : s.data.toList[q]? = some (if b then 40 else 41)) : s[q]'h = if b then 40 else 41 := by
  obtain ⟨h1, h2⟩ := List.getElem?_eq_some_iff.1 hx
  exact h2
theorem drop_pb {PS : List (Nat × Bool)} {n j p : Nat} {b : Bool} (hn : n = PS.length) (hj : j < n) (h : PS[j]'(by rw [← hn]; exact hj) = (p, b)) : PS.drop j = (p, b) :: PS.drop (j + 1) := by
  rw [List.drop_eq_getElem_cons (by rw [← hn]; exact hj), h]
theorem push_op {op : List Nat} {m : Nat} {xs : List Value} (h : m = op.length ∧ xs = cellsN op) (p : Nat) : m + 1 = (op ++ [p]).length ∧ xs ++ [Value.int .i64 (p : Int)] = cellsN (op ++ [p]) := by
  obtain ⟨rfl, rfl⟩ := h
  exact ⟨by simp, cellsN_snoc _ _⟩
theorem stk_push {P Q : List (Nat × Bool)} {op : List Nat} {p : Nat} {last R : Int} (h : P = (p, true) :: Q) (hg : Pl.stk P op last = R) : Pl.stk Q (op ++ [p]) last = R := by
  rw [h] at hg; exact hg

theorem stk_bare {P Q : List (Nat × Bool)} {op : List Nat} {xs : List Value} {p m : Nat} {last R : Int} (h : P = (p, false) :: Q) (ho : m = op.length ∧ xs = cellsN op) (hm : m = 0) (hg : Pl.stk P op last = R) : -1 = R := by
  have : op = [] := List.eq_nil_of_length_eq_zero (by omega)
  subst this
  rw [← hg, h]; rfl
theorem stk_out {PS : List (Nat × Bool)} {op : List Nat} {xs : List Value} {n j m : Nat} {last R : Int} (hn : n = PS.length) (hj : ¬ j < n) (ho : m = op.length ∧ xs = cellsN op) (hm : m = 0) (hg : Pl.stk (PS.drop j) op last = R) : last = R := by
  have : op = [] := List.eq_nil_of_length_eq_zero (by omega)
  subst this
  rw [← hg, List.drop_eq_nil_of_le (by omega)]; rfl
theorem stk_left {PS : List (Nat × Bool)} {op : List Nat} {xs : List Value} {n j m : Nat} {last R : Int} (hn : n = PS.length) (hj : ¬ j < n) (ho : m = op.length ∧ xs = cellsN op) (hm : ¬ m = 0) (hg : Pl.stk (PS.drop j) op last = R) : -1 = R := by
  rw [← hg, List.drop_eq_nil_of_le (by omega)]
  unfold Pl.stk
  rw [if_neg (by intro e; subst e; exact hm ho.1)]
theorem stk_pop {wv : World} {B g cap : Nat} {P Q : List (Nat × Bool)} {op : List Nat} {xs : List Value} {p m : Nat} {last R : Int} (h : P = (p, false) :: Q) (ho : m = op.length ∧ xs = cellsN op) (hm : 1 ≤ m)
    (hown : wv.ownsRow B 3 1 (.slice (some ⟨g, 0, none⟩) m cap) m xs) (hg : Pl.stk P op last = R) :
    ∃ (os : List Nat) (q : Nat), wv.cell? ⟨g, m - 1, none⟩ = some (.int .i64 (q : Int)) ∧ wv.ownsRow B 3 1 (.slice (some ⟨g, 0, none⟩) (m - 1) cap) (m - 1) (cellsN os) ∧ m - 1 = os.length ∧ Pl.stk Q os (q : Int) = R := by
  obtain ⟨h1, h2⟩ := ho
  have hne : op ≠ [] := by intro e; subst e; simp at h1; omega
  obtain ⟨os, q, rfl⟩ : ∃ os q, op = os ++ [q] := ⟨op.dropLast, op.getLast hne, (List.dropLast_concat_getLast hne).symm⟩
  have hml : m = os.length + 1 := by simp at h1; exact h1
  subst hml h2
  refine ⟨os, q, ?_, ?_, by omega, ?_⟩
  · rw [hown.cellAt _ (by omega)]
    unfold cellsN
    simp
  · have e : cellsN (os ++ [q]) = cellsN os ++ [Value.int .i64 (q : Int)] := (cellsN_snoc _ _).symm
    rw [e] at hown
    exact ownsRow_pop (by rw [cellsN_length]; omega) hown
  · rw [← hg, h]
    simp [Pl.stk]

set_option maxRecDepth 100000 in
set_option maxHeartbeats 1600000 in
theorem stack_any (s : ByteArray) (w : World) (hs : s.size ≤ 1048576) :
    Calls Try.prog 9 #[.string s] w fun e w' => e = .returned (.int .i64 (Pl.smod (Pl.prs s.data.toList false 0) s.size [] (-1))) ∧ Below w.heap.size w w' := by
  obtain ⟨i0, hi, hz0, hz1, hz2⟩ := info_parts info3
  go_enter Try.func9, Try.ntmps9
  go_wp2
  go_loopw [4, 5] (fun v i wr => ∃ (k : Nat) (G : List (Nat × Bool)) (n : Nat) (xs : List Value), k ≤ s.size + 1 ∧ i = .int .i64 k ∧ n ≤ k ∧ wr.ownsRow w.heap.size 3 1 v n xs ∧ Hid (n = G.length ∧ xs = cellsN (G.map Prod.fst)) ∧ Hid (G ++ Pl.prs (s.data.toList.drop k) false k = Pl.prs s.data.toList false 0) ∧ Below w.heap.size w wr) (fun _ i _ => s.size + 1 - (intOf i).toNat)
  case atStart => exact ⟨0, [], 0, [], Nat.zero_le _, rfl, Nat.le_refl _, World.ownsRow_nil _ _ _ _, ⟨rfl, rfl⟩, rfl, Below.refl _ _⟩
  case round =>
    obtain ⟨k, G, n, xs, hk, rfl, hn, hown, HN, HG, hnx⟩ := hrel
    by_cases hlt : k < s.size
    · have hll : k < s.data.toList.length := by rw [len_list]; exact hlt
      have hsz := hnx.size
      rcases four s[k] with h | h | h | h
      · have HC : Hid (s.data.toList[k] = 92) := h
        have b1 : ((s[k].toNat : Int) == 92) = true := by rw [h]; rfl
        have HO := hide hown
        have HX := hide hnx
        clear h hown hnx hsz
        go_wp2
        go_roundw
        case rel => exact ⟨k + 1 + 1, G, n, xs, by omega, by go_num, by omega, HO.out, HN, by rw [← Pl.prs_92 _ k hll HC.out]; exact HG.out, HX.out⟩
        case measure => simp [intOf]; omega
      · have HC : Hid (s.data.toList[k] = 40) := h
        have b1 : ((s[k].toNat : Int) == 92) = false := by rw [h]; rfl
        have b2 : ((s[k].toNat : Int) == 40) = true := by rw [h]; rfl
        clear h
        go_wp2_with (at_builtin; refine wpList_append_own _ rfl (.tmp 33) (.tmp 35) 28 rfl w.heap.size 3 i0 (.int .i64 0) 1 8 Try.underlying28 hi hz0 hz1 hz2 rfl (by decide) _ _ _ rfl (hown.alloc _) ⟨wr.heap.size, 0, none⟩ 1 1 [.int .i64 k] rfl rfl (cell_one_new _ _ _) (by simp [Value.oneCell']) (by unfold maxLen; omega) (by omega) (by simp; omega) ?_)
        intro v' w3 hown3 hgrow3 _
        have HX3 := hide (below_own hnx (Nat.le_refl _) hown hgrow3)
        have HO3 := hide hown3
        have HN3 := hide (gather HN.out k true)
        have HG3 := hide (gather_rest (Pl.prs_40 _ k hll HC.out) HG.out)
        clear hown hgrow3 hnx hown3
        go_wp2
        go_roundw
        case rel => exact ⟨k + 1, G ++ [(k, true)], n + 1, _, by omega, by go_num, by omega, HO3.out, HN3, HG3, HX3.out⟩
        case measure => simp [intOf]; omega
      · have HC : Hid (s.data.toList[k] = 41) := h
        have b1 : ((s[k].toNat : Int) == 92) = false := by rw [h]; rfl
        have b2 : ((s[k].toNat : Int) == 40) = false := by rw [h]; rfl
        have b3 : ((s[k].toNat : Int) == 41) = true := by rw [h]; rfl
        clear h
        go_wp2_with (at_builtin; refine wpList_append_own _ rfl (.tmp 33) (.tmp 35) 28 rfl w.heap.size 3 i0 (.int .i64 0) 1 8 Try.underlying28 hi hz0 hz1 hz2 rfl (by decide) _ _ _ rfl (hown.alloc _) ⟨wr.heap.size, 0, none⟩ 1 1 [.int .i64 k] rfl rfl (cell_one_new _ _ _) (by simp [Value.oneCell']) (by unfold maxLen; omega) (by omega) (by simp; omega) ?_)
        intro v' w3 hown3 hgrow3 _
        have HX3 := hide (below_own hnx (Nat.le_refl _) hown hgrow3)
        have HO3 := hide hown3
        have HN3 := hide (gather HN.out k false)
        have HG3 := hide (gather_rest (Pl.prs_41 _ k hll HC.out) HG.out)
        clear hown hgrow3 hnx hown3
        go_wp2
        go_roundw
        case rel => exact ⟨k + 1, G ++ [(k, false)], n + 1, _, by omega, by go_num, by omega, HO3.out, HN3, HG3, HX3.out⟩
        case measure => simp [intOf]; omega
      · have HC : Hid (s.data.toList[k] ≠ 92 ∧ s.data.toList[k] ≠ 40 ∧ s.data.toList[k] ≠ 41) := h
        have b1 : ((s[k].toNat : Int) == 92) = false := u8ne _ 92 h.1
        have b2 : ((s[k].toNat : Int) == 40) = false := u8ne _ 40 h.2.1
        have b3 : ((s[k].toNat : Int) == 41) = false := u8ne _ 41 h.2.2
        have HO := hide hown
        have HX := hide hnx
        clear h hown hnx hsz
        go_wp2
        go_roundw
        case rel => exact ⟨k + 1, G, n, xs, by omega, by go_num, by omega, HO.out, HN, by rw [← Pl.prs_else _ k hll HC.out.1 HC.out.2.1 HC.out.2.2]; exact HG.out, HX.out⟩
        case measure => simp [intOf]; omega
    · have HP := HG.out
      rw [Pl.prs_end _ k (by rw [len_list]; exact hlt), List.append_nil] at HP
      obtain ⟨hG1, hG2⟩ := HN.out
      subst HP hG1 hG2
      have HX := hide hnx
      clear hnx HG HN
      have HM := hide (prs_facts s)
      generalize hps : Pl.prs s.data.toList false 0 = PS at *
      have HS := hide hps
      clear hps
      rcases hown.2 with ⟨hv, hn0⟩ | ⟨g, cap, cur, hv, hgb, hcur, _, _, _, _⟩
      · have HE : Hid (-1 = Pl.smod PS s.size [] (-1)) := smod_none (List.eq_nil_of_length_eq_zero hn0) _
        clear hown
        subst hv
        go_wp2
        go_ret
        exact ⟨ret_int (by rw [HS.out]; exact HE.out), HX.out⟩
      · have hgl : g < wr.heap.size := lt_of_block hcur
        clear hcur
        by_cases hn0 : PS = []
        · have HE : Hid (-1 = Pl.smod PS s.size [] (-1)) := smod_none hn0 _
          have hl : PS.length = 0 := by rw [hn0]; rfl
          clear hown hgb hgl hn0
          subst hv
          rw [hl]
          go_wp2
          go_ret
          exact ⟨ret_int (by rw [HS.out]; exact HE.out), HX.out⟩
        · obtain ⟨q, b, hq⟩ : ∃ q b, PS.getLast? = some (q, b) := by
            cases h : PS.getLast? with
            | none => exact absurd (List.getLast?_eq_none_iff.1 h) hn0
            | some x => exact ⟨x.1, x.2, rfl⟩
          have HQ := hide hq
          obtain ⟨hq1, hq2⟩ := HM.out q b (List.mem_of_getLast? hq)
          have hc := last_cell (q := q) (b := b) hq (by rw [hv] at hown; exact hown)
          have hl1 : 1 ≤ PS.length := List.length_pos_iff.2 hn0
          subst hv
          have HN : Hid (∀ i (h : i < PS.length), wr.cell? ⟨g, i, none⟩ = some (.int .i64 (PS[i].1 : Int))) := nth_cell hown
          obtain ⟨n, hnl⟩ : ∃ n, n = PS.length := ⟨_, rfl⟩
          rw [← hnl] at hl1 hc hn
          rw [← hnl]
          have HNL := hide hnl
          clear hnl hown hq hn0
          have t1 : ((n : Int) == 0) = false := by simp; omega
          by_cases hend : q + 1 = s.size
          · have t2 : ((q : Int) != (s.size : Int) - 1) = false := by simp; omega
            have hlast : s.size - 1 < s.size := by omega
            have hch : s[s.size - 1]'hlast = if b then 40 else 41 := last_char (by omega) hq2
            have HE : Hid (q + 1 = s.size) := hend
            clear hend hq2
            cases b with
            | true =>
              have t3 : (((s[s.size - 1]'hlast).toNat : Int) != 41) = true := by rw [hch]; rfl
              have HF : Hid (-1 = Pl.smod PS s.size [] (-1)) := smod_no HQ.out (.inr rfl)
              clear hch
              go_wp2
              go_ret
              exact ⟨ret_int (by rw [HS.out]; exact HF.out), HX.out⟩
            | false =>
              have t3 : (((s[s.size - 1]'hlast).toNat : Int) != 41) = false := by rw [hch]; rfl
              have HF : Hid (Pl.smod PS s.size [] (-1) = Pl.stk PS [] (-1)) := smod_yes HQ.out HE.out
              clear hch
              obtain ⟨wo, hwo⟩ : ∃ wo : World, wo = wr := ⟨_, rfl⟩
              subst hwo
              go_wp2
              clear hc t1 t2 t3
              go_loopw [6, 7, 8, 9] (fun v l i _ wv => ∃ (j m : Nat) (op : List Nat) (xs : List Value) (last : Int), j ≤ n ∧ i = .int .i64 j ∧ l = .int .i64 last ∧ m ≤ j ∧ wv.ownsRow wo.heap.size 3 1 v m xs ∧ Hid (m = op.length ∧ xs = cellsN op) ∧ Hid (Pl.stk (PS.drop j) op last = Pl.stk PS [] (-1)) ∧ Below wo.heap.size wo wv) (fun _ _ i _ _ => n - (intOf i).toNat)
              case atStart => exact ⟨0, 0, [], [], -1, Nat.zero_le _, rfl, rfl, Nat.le_refl _, World.ownsRow_nil _ _ _ _, ⟨rfl, rfl⟩, rfl, Below.refl _ _⟩
              case round =>
                obtain ⟨j, m, op, xs, last, hj, rfl, rfl, hm, hown, HO, HT, hnx⟩ := hrel
                by_cases hjl : j < n
                · obtain ⟨p, b, hpb⟩ : ∃ p b, PS[j]'(by rw [← HNL.out]; exact hjl) = (p, b) := ⟨_, _, rfl⟩
                  have hcj : wr.cell? ⟨g, j, none⟩ = some (.int .i64 (p : Int)) := by
                    rw [hnx.cell (p := ⟨g, j, none⟩) hgl, HN.out j (by rw [← HNL.out]; exact hjl), hpb]
                  obtain ⟨hp1, hp2⟩ := HM.out p b (by rw [← hpb]; exact List.getElem_mem _)
                  have HD := hide (drop_pb HNL.out hjl hpb)
                  have hch : s[p] = if b then 40 else 41 := any_char hp2
                  have hsz := hnx.size
                  clear hpb hp2
                  cases b with
                  | true =>
                    have t4 : ((s[p].toNat : Int) == 40) = true := by rw [hch]; rfl
                    clear hch
                    go_wp2_with (at_builtin; refine wpList_append_own _ rfl (.tmp 72) (.tmp 74) 28 rfl wo.heap.size 3 i0 (.int .i64 0) 1 8 Try.underlying28 hi hz0 hz1 hz2 rfl (by decide) _ _ _ rfl (hown.alloc _) ⟨wr.heap.size, 0, none⟩ 1 1 [.int .i64 p] rfl rfl (cell_one_new _ _ _) (by simp [Value.oneCell']) (by unfold maxLen; omega) (by omega) (by simp; omega) ?_)
                    intro v' w3 hown3 hgrow3 _
                    have HX3 := hide (below_own hnx (Nat.le_refl _) hown hgrow3)
                    have HO3 := hide hown3
                    have HN3 := hide (push_op HO.out p)
                    have HT3 := hide (stk_push HD.out HT.out)
                    clear hown hgrow3 hnx hown3 HO HT
                    go_wp2
                    go_roundw
                    case rel => exact ⟨j + 1, m + 1, op ++ [p], _, last, by omega, by go_num, rfl, by omega, HO3.out, HN3, HT3, HX3.out⟩
                    case measure => simp [intOf]; omega
                  | false =>
                    have t4 : ((s[p].toNat : Int) == 40) = false := by rw [hch]; rfl
                    clear hch
                    have HX2 := hide (HX.out.trans (hnx.mono HX.out.size))
                    rcases hown.2 with ⟨hv, hm0⟩ | ⟨g2, cap2, cur2, hv, hgb2, hcur2, hmc, hcm2, _, _⟩
                    · have HR := hide (stk_bare HD.out HO.out hm0 HT.out)
                      clear hown hnx HO HT
                      subst hv
                      go_wp2
                      go_ret
                      exact ⟨ret_int (by rw [HS.out, HF.out]; exact HR.out), HX2.out⟩
                    · clear hcur2
                      by_cases hm0 : m = 0
                      · have HR := hide (stk_bare HD.out HO.out hm0 HT.out)
                        have t5 : ((m : Int) == 0) = true := by simp [hm0]
                        clear hown hnx HO HT hm0
                        subst hv
                        go_wp2
                        go_ret
                        exact ⟨ret_int (by rw [HS.out, HF.out]; exact HR.out), HX2.out⟩
                      · have t5 : ((m : Int) == 0) = false := by simp [hm0]
                        have hm1 : 1 ≤ m := by omega
                        subst hv
                        obtain ⟨os, q2, hc2, hown2, hos, hst⟩ := stk_pop HD.out HO.out hm1 hown HT.out
                        have HO2 := hide hown2
                        have HS2 := hide hos
                        have HT2 := hide hst
                        have HX3 := hide hnx
                        clear hown hnx HO HT hm0 hown2 hos hst
                        go_wp2
                        go_roundw
                        case rel => exact ⟨j + 1, m - 1, os, _, q2, by omega, by go_num, rfl, by omega, HO2.out, ⟨HS2.out, rfl⟩, HT2, HX3.out⟩
                        case measure => simp [intOf]; omega
                · have HX2 := hide (HX.out.trans (hnx.mono HX.out.size))
                  rcases hown.2 with ⟨hv, hm0⟩ | ⟨g2, cap2, cur2, hv, hgb2, hcur2, hmc, hcm2, _, _⟩
                  · have HR := hide (stk_out HNL.out hjl HO.out hm0 HT.out)
                    clear hown hnx HO HT
                    subst hv
                    go_wp2
                    go_ret
                    exact ⟨ret_int (by rw [HS.out, HF.out]; exact HR.out), HX2.out⟩
                  · clear hcur2
                    by_cases hm0 : m = 0
                    · have HR := hide (stk_out HNL.out hjl HO.out hm0 HT.out)
                      have t5 : ((m : Int) != 0) = false := by simp [hm0]
                      clear hown hnx HO HT hm0
                      subst hv
                      go_wp2
                      go_ret
                      exact ⟨ret_int (by rw [HS.out, HF.out]; exact HR.out), HX2.out⟩
                    · have HR := hide (stk_left HNL.out hjl HO.out hm0 HT.out)
                      have t5 : ((m : Int) != 0) = true := by simp [hm0]
                      clear hown hnx HO HT hm0
                      subst hv
                      go_wp2
                      go_ret
                      exact ⟨ret_int (by rw [HS.out, HF.out]; exact HR.out), HX2.out⟩
          · have t2 : ((q : Int) != (s.size : Int) - 1) = true := by simp; omega
            have HE : Hid (-1 = Pl.smod PS s.size [] (-1)) := smod_no HQ.out (.inl hend)
            clear hend
            go_wp2
            go_ret
            exact ⟨ret_int (by rw [HS.out]; exact HE.out), HX.out⟩
end Go.Proofs.Qxb6617436a
