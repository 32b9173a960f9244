/-
  THE WALK of FnConnsOfExactlyTheTenants.
-/
import Derived.Test.Qxb6618711aConnPlain
namespace Go.Proofs.Qxb6618711a
open Go.RowKit

theorem info4b : (Try.prog.info? 4).map (fun i => (i.zero, i.size, i.bytes)) = some (some (.bool false), 1, 1) := by kernel_rfl
theorem getD_at {T : List ByteArray} {k : Nat} (h : k < T.length) : T.getD k ByteArray.empty = T[k] := by simp [List.getD, h]
theorem beqL_no {a b : ByteArray} (h : ¬ a = b) : (a.toList == b.toList) = false := by
  have h' : ¬ a.data = b.data := fun e => h (ByteArray.ext e)
  simp [ByteArray.toList_eq, h']

set_option maxRecDepth 100000 in
set_option maxHeartbeats 6400000 in
theorem conn_walk (ao : Option Addr) (cap : Nat) (T : List ByteArray) (s : ByteArray) (w : World) (hT : T.length ≤ 9223372036854775807) (hs : s.size ≤ 9223372036854775807) (HR : Hid (Rs w.heap.size w ao T)) :
    Calls Try.prog 6 #[.slice ao T.length cap, .string s] w fun e w' => e = .returned (.bool true) ∧ Below w.heap.size w w' := by
  obtain ⟨i0, hi, hz0, hz1, hz2⟩ := info_parts info4b
  go_enter Try.func6, Try.ntmps6
  go_wp2_with fail
  refine (bytes_any ao cap T s w hT hs HR).mono ?_
  rintro e w1 (⟨rfl, hb1⟩ | ⟨rfl, hsh, hb1⟩)
  · have HB1 := hideC hb1
    clear hb1
    go_wp2
    go_ret
    exact ⟨rfl, HB1.out⟩
  have HB1 := hideC hb1
  have HSH := hideC hsh
  clear hb1 hsh
  by_cases h1 : T.length > 4096
  · have i1 : (T.length : Int) > 4096 := by omega
    go_wp2
    go_ret
    exact ⟨rfl, HB1.out⟩
  have i1 : ¬ (T.length : Int) > 4096 := by omega
  by_cases h2 : s.size > 65536
  · have i2 : (s.size : Int) > 65536 := by omega
    go_wp2
    go_ret
    exact ⟨rfl, HB1.out⟩
  have i2 : ¬ (s.size : Int) > 65536 := by omega
  go_wp2
  go_loopw [5, 6] (fun n i wr => ∃ (m k : Nat), n = .int .i64 m ∧ i = .int .i64 k ∧ m ≤ 1048576 ∧ k ≤ T.length ∧ Below w.heap.size w wr) (fun _ i _ => T.length - (intOf i).toNat)
  case atStart => exact ⟨s.size, 0, rfl, rfl, by omega, by omega, HB1.out⟩
  case round =>
    obtain ⟨m, k, rfl, rfl, hm, hk, hbl⟩ := hrel
    clear HB1
    have HBL := hideC hbl
    have HR1 := hideC (HR.out.below hbl)
    clear hbl
    by_cases hlt : k < T.length
    · obtain ⟨b, o, rfl, hb, hc, hsz⟩ := HR1.out k hlt
      have h20 := HSH.out k hlt hlt
      generalize T[k] = t at *
      have i3 : (k : Int) < (T.length : Int) := by omega
      by_cases h3 : m + (16 + t.size) > 1048576
      · have i5 : (m : Int) + (16 + (t.size : Int)) > 1048576 := by omega
        go_wp2
        go_ret
        exact ⟨rfl, HBL.out⟩
      · have i5 : ¬ (m : Int) + (16 + (t.size : Int)) > 1048576 := by omega
        go_wp2
        go_roundw
        case rel => exact ⟨m + (16 + t.size), k + 1, by go_num, by go_num, by omega, by omega, HBL.out⟩
        case measure => simp [intOf]; omega
    · go_wp2_with fail
      refine (newR_any wr).mono ?_
      rintro e w2 ⟨R, M, rfl, hJ, hb2⟩
      obtain ⟨B, hB⟩ : ∃ B, B = wr.heap.size := ⟨_, rfl⟩
      rw [← hB] at hJ hb2
      have HWB : Hid (w.heap.size ≤ B) := by unfold Hid; rw [hB]; exact HBL.out.size
      have HJ := hideC hJ
      have HB2 : Hid (Below w.heap.size w w2) := HBL.out.trans (hb2.mono HWB.out)
      have HS2 : Hid (B ≤ w2.heap.size) := by unfold Hid; rw [hB]; exact hb2.size
      clear hJ hb2 hB HBL HR1 hlt
      clear hm hk
      go_wp2
      go_loopw [8] (fun i wj => ∃ (k : Nat) (G : List Grp), i = .int .i64 k ∧ k ≤ T.length ∧ J wj B R M G ∧ (∀ s, (grpL G s).map Prod.snd = idx T s k) ∧ B ≤ wj.heap.size ∧ Below w.heap.size w wj) (fun i _ => T.length - (intOf i).toNat)
      case atStart => exact ⟨0, [], rfl, Nat.zero_le _, HJ.out, fun _ => rfl, HS2.out, HB2.out⟩
      case round =>
        obtain ⟨k, G, rfl, hk, hJ, hG, hsz, hbl⟩ := hrel
        clear HJ HS2 HB2
        have HJ := hideC hJ
        have HG := hideC hG
        have HSZ := hideC hsz
        have HBL := hideC hbl
        have HR1 := hideC (HR.out.below hbl)
        clear hJ hG hsz hbl
        by_cases hlt : k < T.length
        · obtain ⟨b, o, rfl, hb, hc, hsz⟩ := HR1.out k hlt
          have HT := hideC (getD_at hlt)
          generalize T[k] = t at *
          have i3 : (k : Int) < (T.length : Int) := by omega
          go_wp2_with fail
          refine (join_any B R M G T k t _ HT.out HJ.out HG.out HSZ.out).mono ?_
          rintro e wk ⟨rfl, ⟨G', hJ', hG'⟩, hb'⟩
          have HJ' := hideC hJ'
          have HG' := hideC hG'
          have HB' := hideC hb'
          clear hJ' hG' hb'
          go_wp2
          go_roundw
          case rel => exact ⟨k + 1, G', by go_num, by omega, HJ'.out, HG'.out, Nat.le_trans HSZ.out HB'.out.size, HBL.out.trans (HB'.out.mono HWB.out)⟩
          case measure => simp [intOf]; omega
        · obtain rfl : k = T.length := by omega
          clear hlt hk
          have hgl : (grpL G s).length ≤ 65536 := by
            have e := idx_le T s T.length
            rw [← HG.out, List.length_map] at e
            omega
          go_wp2_with fail
          refine (ids_any B R M G s _ HJ.out hgl).mono ?_
          rintro e w3 ⟨gb, js, rfl, hj1, hj2, hj3, ho, hb3⟩
          obtain ⟨ids, hids, hl1, hl2, hnd, hin⟩ := tags_law HG.out hj1 hj2 hj3
          rw [← hids, ← hl2] at ho
          rw [← hl2]
          have hgb : gb < w3.heap.size := by
            rcases ho.2 with ⟨h, _⟩ | ⟨g', cap', cur, h', _, hgg, _⟩
            · simp at h
            · simp only [Value.slice.injEq, Option.some.injEq, Addr.mk.injEq, and_true, true_and] at h'
              rw [← h'.1] at hgg
              exact ltH hgg
          have HO := hideC ho
          have HND := hideC hnd
          have HIN := hideC hin
          have HL := hideC hl1
          have HB3 : Hid (Below w.heap.size w w3) := HBL.out.trans (hb3.mono HBL.out.size)
          have HR3 := hideC (HR.out.below HB3.out)
          clear ho hnd hin hl1 hb3 hj1 hj2 hj3 hids hl2 HJ HG HSZ HBL HR1 hgl
          go_wp2
          go_loopw [10, 11] (fun c i wq => ∃ (m k : Nat), c = .int .i64 m ∧ i = .int .i64 k ∧ k ≤ T.length ∧ m = (idx T s k).length ∧ Below w3.heap.size w3 wq) (fun _ i _ => T.length - (intOf i).toNat)
          case atStart => exact ⟨0, 0, rfl, rfl, Nat.zero_le _, rfl, Below.refl _ _⟩
          case round =>
            obtain ⟨m, k, rfl, rfl, hk, hm, hbq⟩ := hrel
            have hmk : m ≤ k := by rw [hm]; exact idx_le T s k
            have HM := hideC hm
            have HBQ := hideC hbq
            have HRQ := hideC (HR3.out.below (hbq.mono HB3.out.size))
            clear hm hbq
            by_cases hlt : k < T.length
            · obtain ⟨b, o, rfl, hb, hc, hsz⟩ := HRQ.out k hlt
              have HT := hideC (getD_at hlt)
              generalize T[k] = t at *
              have i3 : (k : Int) < (T.length : Int) := by omega
              by_cases hts : t = s
              · subst hts
                go_wp2
                go_roundw
                case rel => exact ⟨m + 1, k + 1, by go_num, by go_num, by omega, by rw [idx_yes HT.out, List.length_append, ← HM.out]; rfl, HBQ.out⟩
                case measure => simp [intOf]; omega
              · have i4 := beqL_no hts
                have HN := hideC hts
                go_wp2
                go_roundw
                case rel => exact ⟨m, k + 1, by go_num, by go_num, by omega, by rw [idx_no (by rw [HT.out]; exact HN.out), ← HM.out], HBQ.out⟩
                case measure => simp [intOf]; omega
            · obtain rfl : k = T.length := by omega
              obtain rfl : m = ids.length := by rw [HM.out, HL.out]
              clear HM HL
              generalize wr = wq at *
              have HSW : Hid (w.heap.size ≤ wq.heap.size) := Nat.le_trans HB3.out.size HBQ.out.size
              go_wp2_with (at_make; refine wpList_make_full _ rfl _ _ 46 rfl w.heap.size 4 i0 (.bool false) 1 Try.underlying46 hi hz0 hz1 _ _ _ _ T.length rfl rfl (by simp) (by simp) (by rw [hz2]; omega) (by unfold maxLen; omega) HSW.out ?_)
              intro w4 how hgr
              have HO4 : Hid (w4.ownsRow w.heap.size 4 1 (.slice (some ⟨wq.heap.size, 0, none⟩) T.length T.length) T.length (seenL T.length ids 0)) := by
                unfold Hid
                rw [seenL_zero]
                simpa using how
              have HB4 : Hid (Below wq.heap.size wq w4) := (Below.refl _ _).grown hgr (Nat.le_refl _) (fun _ h => by cases h)
              clear how hgr
              go_wp2
              go_loopw [13, 14] (fun i _ wr => ∃ (k : Nat), i = .int .i64 k ∧ k ≤ ids.length ∧ wr.ownsRow w.heap.size 4 1 (.slice (some ⟨wq.heap.size, 0, none⟩) T.length T.length) T.length (seenL T.length ids k) ∧ Below wq.heap.size wq wr) (fun i _ _ => ids.length - (intOf i).toNat)
              case atStart => exact ⟨0, rfl, Nat.zero_le _, HO4.out, HB4.out⟩
              case round =>
                obtain ⟨k, rfl, hk2, hown, hbr⟩ := hrel
                clear HO4 HB4
                have HO5 := hideC hown
                have HB5 := hideC hbr
                by_cases hlt2 : k < ids.length
                · obtain ⟨hx1, hx2⟩ := HIN.out ids[k] (List.getElem_mem hlt2)
                  have hc1 : wr.cell? ⟨gb, k, none⟩ = some (.int .i64 (ids[k] : Int)) := by
                    rw [hbr.cell (p := ⟨gb, k, none⟩) (Nat.lt_of_lt_of_le hgb HBQ.out.size), HBQ.out.cell (p := ⟨gb, k, none⟩) hgb, HO.out.cellAt k (by omega)]
                    simp [cellI, hlt2]
                  have hc2 : wr.cell? ⟨wq.heap.size, ids[k], none⟩ = some (.bool false) := by
                    rw [hown.cellAt ids[k] (by omega)]
                    exact seenL_at hlt2 HND.out hx1
                  obtain ⟨b, o, rfl, hb, hc3, hsz⟩ := HRQ.out ids[k] hx1
                  have hc4 : wr.cell? ⟨b, o + ids[k], none⟩ = some (.string s) := by
                    rw [hbr.cell (p := ⟨b, o + ids[k], none⟩) (Nat.lt_of_lt_of_le hb HSW.out), hc3, ← hx2, getD_at hx1]
                  have hf := hown.frozenAt ids[k]
                  have hst := HO5.out.stored ids[k] (.bool true)
                  have HST : Hid ((wr.setCell ⟨wq.heap.size, ids[k], none⟩ (.bool true)).ownsRow w.heap.size 4 1 (.slice (some ⟨wq.heap.size, 0, none⟩) T.length T.length) T.length (seenL T.length ids (k + 1))) := by
                    unfold Hid
                    rw [seenL_succ hlt2]
                    exact hst.1
                  clear hst hc3 hx2 hsz hown hbr
                  generalize ids[k] = x at *
                  have j1 : (k : Int) < (ids.length : Int) := by omega
                  have j2 : ¬ (x : Int) < 0 := by omega
                  have j3 : (x : Int) < (T.length : Int) := by omega
                  go_wp2
                  go_roundw
                  case rel => exact ⟨k + 1, by go_num, by omega, HST.out, HB5.out.setCell (Nat.le_refl _) _⟩
                  case measure => simp [intOf]; omega
                · clear hown hbr
                  go_wp2
                  go_ret
                  exact ⟨rfl, HB3.out.trans ((HBQ.out.mono HB3.out.size).trans (HB5.out.mono HSW.out))⟩
end Go.Proofs.Qxb6618711a
