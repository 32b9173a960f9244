/-
  THE WALK of FnAppendSegmentSplitsAndDecodes.
-/
import Derived.Test.Qxb6618073aSplitAid
namespace Go.Proofs.Qxb6618073a
open Go.RowKit

set_option maxRecDepth 100000 in
set_option maxHeartbeats 1600000 in
theorem spl_lt (a0 : Option Addr) (n0 c0 : Nat) (l0 : List UInt8) (A1 : Addr) (n1 c1 : Nat) (l1 : List UInt8) (k : Nat) (w : World) (hl0 : Hid (l0.length = n0)) (RD : Hid (Rd w.heap.size w (.slice a0 n0 c0) l0))
    (hl1 : Hid (l1.length = n1)) (RI1 : Hid (Rd w.heap.size w (.slice (some A1) n1 c1) l1)) (h : n0 + n1 ≤ 1048576) (hk : k < n1) :
    Calls Try.prog 3 #[.slice a0 n0 c0, .slice (some A1) n1 c1, .int .i64 k] w fun e w' => e = .returned (.bool true) ∧ Below w.heap.size w w' := by
  obtain ⟨i0, hi, hz0, hz1, hz2⟩ := info_parts info5
  have hne1 := fun w => run_neq_slice_nil_any (P := Try.prog) w 22 5 (some A1) n1 c1 0 0 Try.underlying22
  have t1 : ¬ (1048576 : Int) < (n0 : Int) := by omega
  have t2 : ¬ (1048576 : Int) - (n0 : Int) < (n1 : Int) := by omega
  have t3 : ¬ (k : Int) < 0 := by omega
  have t4 : ¬ (n1 : Int) < (k : Int) := by omega
  go_enter Try.func3, Try.ntmps3
  go_wp2_with fail
  refine (bytes3_any _ _ _ _ _ _ _ _ (by unfold maxLen; omega) (by unfold maxLen; omega)).mono ?_
  rintro e w' ⟨rfl, rfl⟩
  rw [show decide (n0 + n1 ≤ 1048576) = true by simp [h]]
  go_wp2_with (at_make; refine wpList_make_full _ rfl _ _ 22 rfl w'.heap.size 5 i0 (.int .u8 0) 1 Try.underlying22 hi hz0 hz1 _ _ _ _ n1 rfl rfl (by omega) (by omega) (by rw [hz2]; omega) (by unfold maxLen; omega) (Nat.le_refl _) ?_)
  intro wa1 how hg
  obtain ⟨cur1, hcl, hcur1⟩ := made_row how
  have hba : Below w'.heap.size w' wa1 := (Below.refl _ _).grown hg (Nat.le_refl _) (fun _ h => by cases h)
  have RR := RI1.out.below hba
  have S1 := hide (src_of RR)
  have HBA1 := hide hba
  have HCL1 := hide hcl
  clear RR how hg hba hcl
  go_wp2_with ((show wpList _ _ _ ({ dst := _, op := Op.call { callee := Callee.builtin Builtin.copy, args := _, argTypes := _ }, type := _, pos := _, after := _, guard := _ } :: _) _ _); refine wpList_copy_splice rfl (.tmp 37) (.tmp 38) 22 22 rfl 5 Try.underlying22 info5s _ _ _ _ _ _ rfl rfl w'.heap.size 0 cur1 5 hcur1 (cellsU l1) (by rw [cellsU_length, hl1.out]; exact (Nat.min_self _).symm) (fun hp => ⟨rfl, S1.out hp⟩) (by rw [cellsU_length, hl1.out, HCL1.out]; omega) (cellsU_one l1) w'.heap.size w' HBA1.out (Nat.le_refl _) ?_)
  intro wb1 HG hbb
  have R1 := hide (copied hl1.out (by unfold maxLen; omega) HCL1.out HG.out)
  have HBX := hide hbb
  have RD2 := hide ((RD.out.below hbb).mono hbb.size)
  clear HG hbb hcur1 S1 HBA1 HCL1 RI1 RD hne1
  obtain ⟨g1, hg1⟩ : ∃ g1, g1 = w'.heap.size := ⟨_, rfl⟩
  rw [← hg1] at R1
  rw [← hg1]
  have HG1 := hide hg1
  clear hg1
  go_wp2_with fail
  refine (clone_any _ l0 _ (by rw [hl0.out]; omega) RD2.out).mono ?_
  rintro e wc ⟨v', rfl, ho, hbl⟩
  have HO := hide ho
  have HBL := hide hbl
  clear ho hbl
  go_wp2_with fail
  refine (seg_at _ _ l0 l1 wb1.heap.size _ HBL.out.size HO.out (by rw [hl0.out]; omega) (by rw [hl1.out]; omega) (R1.out.below HBL.out)).mono ?_
  rintro e wd ⟨wh, rfl, hsh, ho2, hr2, hbl2⟩
  have HSH := hide hsh
  have RW := hide hr2
  have HBY := hide (HBL.out.trans hbl2)
  clear hsh ho2 hr2 hbl2 HO HBL
  have RD3 := hide ((RD2.out.below HBY.out).mono HBY.out.size)
  have R1' := hide ((R1.out.below HBY.out).mono HBY.out.size)
  have HBZ := hide (HBX.out.trans (HBY.out.mono HBX.out.size))
  clear RD2 R1 HBX HBY
  go_wp2_with fail
  have RK := hide (rd_head R1'.out k (by omega))
  have b1 : (0 : Int) ≤ (k : Int) := by omega
  have b2 : (k : Int) ≤ (n1 : Int) := by omega
  go_region_with (first
    | (go_at_call 7; refine (clone_any _ l0 _ (by rw [hl0.out]; omega) (by exact rd_drew RD3.out)).mono ?_; rintro e we ⟨ve, rfl, hoe, hble⟩)
    | (go_at_call 6; refine (seg_at _ _ l0 (l1.take k) wd.heap.size _ hble.size hoe (by rw [hl0.out]; omega) (by rw [List.length_take, hl1.out]; omega) (by exact (rd_drew RK.out).below hble)).mono ?_; rintro e wf ⟨pt, rfl, hshp, hop, hrp, hblp⟩))
  have HBV := hide (((Below.refl wd.heap.size wd).drew.trans hble).trans hblp)
  have HOP := hide hop
  have RW2 := hide (RW.out.below HBV.out)
  have RD4 := hide (RD3.out.below HBV.out)
  have RT := hide ((rd_tail R1'.out k (by omega)).below HBV.out)
  have R14 := hide (R1'.out.below HBV.out)
  have HSZ := hide HBV.out.size
  have HBU := hide (HBZ.out.trans (HBV.out.mono HBZ.out.size))
  have HSW := hide HBZ.out.size
  clear hoe hble hshp hop hrp hblp RW RD3 R1' HBZ RK HBV
  rw [Nat.zero_add] at RT
  go_wp2_with fail
  refine (seg_at _ _ _ (l1.drop k) wd.heap.size _ HSZ.out HOP.out (part_le hl0.out hl1.out h k) (by rw [List.length_drop, hl1.out]; omega) RT.out).mono ?_
  rintro e wg ⟨p2, rfl, hsh2, hop2, hrp2, hbl2⟩
  have RP := hide hrp2
  have HSX := hide (Nat.le_trans HSZ.out hbl2.size)
  have RW3 := hide ((RW2.out.below hbl2).mono HSX.out)
  have RD5 := hide ((RD4.out.below hbl2).mono HSX.out)
  have R15 := hide ((R14.out.below hbl2).mono HSX.out)
  have HBT := hide (HBU.out.trans (hbl2.mono HSW.out))
  clear hsh2 hop2 hrp2 hbl2 HOP RT RW2 RD4 R14 HBU HSZ HSX HSW
  rcases HSH.out with ⟨hwh, hN⟩ | ⟨gw, cw, hwh⟩
  · exfalso
    have := Pl.enc_lo l1
    rw [List.length_append, hl0.out] at hN
    rw [hl1.out] at this
    omega
  · subst hwh
    have HNL := hide (whole_len l0 l1 n0 n1 hl0.out hl1.out)
    obtain ⟨hcN, hcM⟩ := (rd_cells RW3.out).2
    obtain ⟨N, hN⟩ : ∃ N, N = (l0 ++ Pl.enc l1).length := ⟨_, rfl⟩
    rw [← hN] at RW3 hcN
    rw [← hN]
    have nN : n0 + n1 ≤ N := by rw [hN]; exact HNL.out.1
    have hNb : N ≤ 4194304 := by have := HNL.out.2; omega
    have RHD := hide (rd_head RW3.out n0 (by omega))
    have RTL := hide (rd_tail RW3.out n0 (by omega))
    rw [List.take_append_of_le_length (by rw [hl0.out]; omega), List.take_of_length_le (by rw [hl0.out]; omega)] at RHD
    rw [List.drop_append_of_le_length (by rw [hl0.out]; omega), List.drop_eq_nil_of_le (by rw [hl0.out]; omega), List.nil_append, Nat.zero_add] at RTL
    have HN := hide hN
    clear hN HNL HSH hcM
    go_wp2_with fail
    refine (eq_any _ _ (l0 ++ Pl.enc l1) (l0 ++ Pl.enc (l1.take k) ++ Pl.enc (l1.drop k)) _ _ RW3.out RP.out).mono ?_
    rintro e wq ⟨rfl, nq, hwq⟩
    rw [same_parts l0 l1 k]
    have HWQ := hide hwq
    clear hwq
    go_wp2_with fail
    refine (eq_any _ _ l0 l0 _ _ (RHD.out.drewN HWQ.out) (RD5.out.drewN HWQ.out)).mono ?_
    rintro e wr ⟨rfl, nq2, hwr⟩
    rw [show (l0 == l0) = true by simp]
    have HWR := hide hwr
    clear hwr
    go_wp2_with fail
    refine (canon_any _ _ l1 _ _ (by rw [hl1.out]; omega) ((RTL.out.drewN HWQ.out).drewN HWR.out) ((R15.out.drewN HWQ.out).drewN HWR.out)).mono ?_
    rintro e ws ⟨rfl, hws⟩
    have HWS := hide hws
    clear hws
    go_wp2
    go_ret
    refine ⟨rfl, ?_⟩
    rw [HWS.out, HWR.out, HWQ.out]
    exact below_drewN (below_drewN HBT.out _) _

set_option maxRecDepth 100000 in
set_option maxHeartbeats 1600000 in
theorem spl_eq (a0 : Option Addr) (n0 c0 : Nat) (l0 : List UInt8) (A1 : Addr) (n1 c1 : Nat) (l1 : List UInt8) (w : World) (hl0 : Hid (l0.length = n0)) (RD : Hid (Rd w.heap.size w (.slice a0 n0 c0) l0))
    (hl1 : Hid (l1.length = n1)) (RI1 : Hid (Rd w.heap.size w (.slice (some A1) n1 c1) l1)) (h : n0 + n1 ≤ 1048576) :
    Calls Try.prog 3 #[.slice a0 n0 c0, .slice (some A1) n1 c1, .int .i64 n1] w fun e w' => e = .returned (.bool true) ∧ Below w.heap.size w w' := by
  obtain ⟨i0, hi, hz0, hz1, hz2⟩ := info_parts info5
  have hne1 := fun w => run_neq_slice_nil_any (P := Try.prog) w 22 5 (some A1) n1 c1 0 0 Try.underlying22
  have t1 : ¬ (1048576 : Int) < (n0 : Int) := by omega
  have t2 : ¬ (1048576 : Int) - (n0 : Int) < (n1 : Int) := by omega
  have t3 : ¬ (n1 : Int) < 0 := by omega
  have t4 : ¬ (n1 : Int) < (n1 : Int) := by omega
  go_enter Try.func3, Try.ntmps3
  go_wp2_with fail
  refine (bytes3_any _ _ _ _ _ _ _ _ (by unfold maxLen; omega) (by unfold maxLen; omega)).mono ?_
  rintro e w' ⟨rfl, rfl⟩
  rw [show decide (n0 + n1 ≤ 1048576) = true by simp [h]]
  go_wp2_with (at_make; refine wpList_make_full _ rfl _ _ 22 rfl w'.heap.size 5 i0 (.int .u8 0) 1 Try.underlying22 hi hz0 hz1 _ _ _ _ n1 rfl rfl (by omega) (by omega) (by rw [hz2]; omega) (by unfold maxLen; omega) (Nat.le_refl _) ?_)
  intro wa1 how hg
  obtain ⟨cur1, hcl, hcur1⟩ := made_row how
  have hba : Below w'.heap.size w' wa1 := (Below.refl _ _).grown hg (Nat.le_refl _) (fun _ h => by cases h)
  have RR := RI1.out.below hba
  have S1 := hide (src_of RR)
  have HBA1 := hide hba
  have HCL1 := hide hcl
  clear RR how hg hba hcl
  go_wp2_with ((show wpList _ _ _ ({ dst := _, op := Op.call { callee := Callee.builtin Builtin.copy, args := _, argTypes := _ }, type := _, pos := _, after := _, guard := _ } :: _) _ _); refine wpList_copy_splice rfl (.tmp 37) (.tmp 38) 22 22 rfl 5 Try.underlying22 info5s _ _ _ _ _ _ rfl rfl w'.heap.size 0 cur1 5 hcur1 (cellsU l1) (by rw [cellsU_length, hl1.out]; exact (Nat.min_self _).symm) (fun hp => ⟨rfl, S1.out hp⟩) (by rw [cellsU_length, hl1.out, HCL1.out]; omega) (cellsU_one l1) w'.heap.size w' HBA1.out (Nat.le_refl _) ?_)
  intro wb1 HG hbb
  have R1 := hide (copied hl1.out (by unfold maxLen; omega) HCL1.out HG.out)
  have HBX := hide hbb
  have RD2 := hide ((RD.out.below hbb).mono hbb.size)
  clear HG hbb hcur1 S1 HBA1 HCL1 RI1 RD hne1
  obtain ⟨g1, hg1⟩ : ∃ g1, g1 = w'.heap.size := ⟨_, rfl⟩
  rw [← hg1] at R1
  rw [← hg1]
  have HG1 := hide hg1
  clear hg1
  go_wp2_with fail
  refine (clone_any _ l0 _ (by rw [hl0.out]; omega) RD2.out).mono ?_
  rintro e wc ⟨v', rfl, ho, hbl⟩
  have HO := hide ho
  have HBL := hide hbl
  clear ho hbl
  go_wp2_with fail
  refine (seg_at _ _ l0 l1 wb1.heap.size _ HBL.out.size HO.out (by rw [hl0.out]; omega) (by rw [hl1.out]; omega) (R1.out.below HBL.out)).mono ?_
  rintro e wd ⟨wh, rfl, hsh, ho2, hr2, hbl2⟩
  have HSH := hide hsh
  have RW := hide hr2
  have HBY := hide (HBL.out.trans hbl2)
  clear hsh ho2 hr2 hbl2 HO HBL
  have RD3 := hide ((RD2.out.below HBY.out).mono HBY.out.size)
  have R1' := hide ((R1.out.below HBY.out).mono HBY.out.size)
  have HBZ := hide (HBX.out.trans (HBY.out.mono HBX.out.size))
  clear RD2 R1 HBX HBY
  go_wp2_with fail
  have RK := hide (rd_head R1'.out n1 (by omega))
  have b1 : (0 : Int) ≤ (n1 : Int) := by omega
  have b2 : (n1 : Int) ≤ (n1 : Int) := by omega
  go_region_with (first
    | (go_at_call 7; refine (clone_any _ l0 _ (by rw [hl0.out]; omega) (by exact rd_drew RD3.out)).mono ?_; rintro e we ⟨ve, rfl, hoe, hble⟩)
    | (go_at_call 6; refine (seg_at _ _ l0 (l1.take n1) wd.heap.size _ hble.size hoe (by rw [hl0.out]; omega) (by rw [List.length_take, hl1.out]; omega) (by exact (rd_drew RK.out).below hble)).mono ?_; rintro e wf ⟨pt, rfl, hshp, hop, hrp, hblp⟩))
  have HBV := hide (((Below.refl wd.heap.size wd).drew.trans hble).trans hblp)
  have HOP := hide hop
  have RW2 := hide (RW.out.below HBV.out)
  have RD4 := hide (RD3.out.below HBV.out)
  have RT := hide (rd_empty wd.heap.size wf (some ⟨g1, 0, none⟩) 0 (fun e => by cases e) (Nat.zero_le _) (l := l1.drop n1) (by rw [List.length_drop, hl1.out]; omega))
  have R14 := hide (R1'.out.below HBV.out)
  have HSZ := hide HBV.out.size
  have HBU := hide (HBZ.out.trans (HBV.out.mono HBZ.out.size))
  have HSW := hide HBZ.out.size
  clear hoe hble hshp hop hrp hblp RW RD3 R1' HBZ RK HBV
  go_wp2_with fail
  refine (seg_at _ _ _ (l1.drop n1) wd.heap.size _ HSZ.out HOP.out (part_le hl0.out hl1.out h n1) (by rw [List.length_drop, hl1.out]; omega) RT.out).mono ?_
  rintro e wg ⟨p2, rfl, hsh2, hop2, hrp2, hbl2⟩
  have RP := hide hrp2
  have HSX := hide (Nat.le_trans HSZ.out hbl2.size)
  have RW3 := hide ((RW2.out.below hbl2).mono HSX.out)
  have RD5 := hide ((RD4.out.below hbl2).mono HSX.out)
  have R15 := hide ((R14.out.below hbl2).mono HSX.out)
  have HBT := hide (HBU.out.trans (hbl2.mono HSW.out))
  clear hsh2 hop2 hrp2 hbl2 HOP RT RW2 RD4 R14 HBU HSZ HSX HSW
  rcases HSH.out with ⟨hwh, hN⟩ | ⟨gw, cw, hwh⟩
  · subst hwh
    have HZ := whole_len l0 l1 n0 n1 hl0.out hl1.out
    rw [hN] at HZ
    obtain rfl : n0 = 0 := by omega
    obtain rfl : n1 = 0 := by omega
    have RHD := hide (rd_nil' wg.heap.size wg hl0.out)
    have RTL := hide (rd_nil' wg.heap.size wg (l := Pl.enc l1) (by rw [List.length_append] at hN; omega))
    clear HSH hN HZ
    go_wp2_with fail
    refine (eq_any _ _ (l0 ++ Pl.enc l1) (l0 ++ Pl.enc (l1.take 0) ++ Pl.enc (l1.drop 0)) _ _ RW3.out RP.out).mono ?_
    rintro e wq ⟨rfl, nq, hwq⟩
    rw [same_parts l0 l1 0]
    have HWQ := hide hwq
    clear hwq
    go_wp2_with fail
    refine (eq_any _ _ l0 l0 _ _ (RHD.out.drewN HWQ.out) (RD5.out.drewN HWQ.out)).mono ?_
    rintro e wr ⟨rfl, nq2, hwr⟩
    rw [show (l0 == l0) = true by simp]
    have HWR := hide hwr
    clear hwr
    go_wp2_with fail
    refine (canon_any _ _ l1 _ _ (by rw [hl1.out]; omega) ((RTL.out.drewN HWQ.out).drewN HWR.out) ((R15.out.drewN HWQ.out).drewN HWR.out)).mono ?_
    rintro e ws ⟨rfl, hws⟩
    have HWS := hide hws
    clear hws
    go_wp2
    go_ret
    refine ⟨rfl, ?_⟩
    rw [HWS.out, HWR.out, HWQ.out]
    exact below_drewN (below_drewN HBT.out _) _
  · subst hwh
    have HNL := hide (whole_len l0 l1 n0 n1 hl0.out hl1.out)
    obtain ⟨hcN, hcM⟩ := (rd_cells RW3.out).2
    obtain ⟨N, hN⟩ : ∃ N, N = (l0 ++ Pl.enc l1).length := ⟨_, rfl⟩
    rw [← hN] at RW3 hcN
    rw [← hN]
    have nN : n0 + n1 ≤ N := by rw [hN]; exact HNL.out.1
    have hNb : N ≤ 4194304 := by have := HNL.out.2; omega
    have RHD := hide (rd_head RW3.out n0 (by omega))
    have RTL := hide (rd_tail RW3.out n0 (by omega))
    rw [List.take_append_of_le_length (by rw [hl0.out]; omega), List.take_of_length_le (by rw [hl0.out]; omega)] at RHD
    rw [List.drop_append_of_le_length (by rw [hl0.out]; omega), List.drop_eq_nil_of_le (by rw [hl0.out]; omega), List.nil_append, Nat.zero_add] at RTL
    have HN := hide hN
    have hupper := HNL.out.2
    clear hN HNL HSH hcM
    by_cases hcw : cw = n0
    · have hNn : N = n0 := by omega
      obtain rfl : n1 = 0 := by omega
      have RTL0 := hide (rd_empty wg.heap.size wg (some ⟨gw, 0, none⟩) 0 (fun e => by cases e) (Nat.zero_le _) (l := Pl.enc l1) (by have := HN.out; rw [List.length_append, hl0.out] at this; omega))
      clear RTL
      have RTL := RTL0
      subst hcw
      subst hNn
      go_wp2_with fail
      refine (eq_any _ _ (l0 ++ Pl.enc l1) (l0 ++ Pl.enc (l1.take 0) ++ Pl.enc (l1.drop 0)) _ _ RW3.out RP.out).mono ?_
      rintro e wq ⟨rfl, nq, hwq⟩
      rw [same_parts l0 l1 0]
      have HWQ := hide hwq
      clear hwq
      go_wp2_with fail
      refine (eq_any _ _ l0 l0 _ _ (RHD.out.drewN HWQ.out) (RD5.out.drewN HWQ.out)).mono ?_
      rintro e wr ⟨rfl, nq2, hwr⟩
      rw [show (l0 == l0) = true by simp]
      have HWR := hide hwr
      clear hwr
      go_wp2_with fail
      refine (canon_any _ _ l1 _ _ (by rw [hl1.out]; omega) ((RTL.out.drewN HWQ.out).drewN HWR.out) ((R15.out.drewN HWQ.out).drewN HWR.out)).mono ?_
      rintro e ws ⟨rfl, hws⟩
      have HWS := hide hws
      clear hws
      go_wp2
      go_ret
      refine ⟨rfl, ?_⟩
      rw [HWS.out, HWR.out, HWQ.out]
      exact below_drewN (below_drewN HBT.out _) _
    · go_wp2_with fail
      refine (eq_any _ _ (l0 ++ Pl.enc l1) (l0 ++ Pl.enc (l1.take n1) ++ Pl.enc (l1.drop n1)) _ _ RW3.out RP.out).mono ?_
      rintro e wq ⟨rfl, nq, hwq⟩
      rw [same_parts l0 l1 n1]
      have HWQ := hide hwq
      clear hwq
      go_wp2_with fail
      refine (eq_any _ _ l0 l0 _ _ (RHD.out.drewN HWQ.out) (RD5.out.drewN HWQ.out)).mono ?_
      rintro e wr ⟨rfl, nq2, hwr⟩
      rw [show (l0 == l0) = true by simp]
      have HWR := hide hwr
      clear hwr
      go_wp2_with fail
      refine (canon_any _ _ l1 _ _ (by rw [hl1.out]; omega) ((RTL.out.drewN HWQ.out).drewN HWR.out) ((R15.out.drewN HWQ.out).drewN HWR.out)).mono ?_
      rintro e ws ⟨rfl, hws⟩
      have HWS := hide hws
      clear hws
      go_wp2
      go_ret
      refine ⟨rfl, ?_⟩
      rw [HWS.out, HWR.out, HWQ.out]
      exact below_drewN (below_drewN HBT.out _) _

set_option maxRecDepth 100000 in
set_option maxHeartbeats 1600000 in
theorem spl_nil (a0 : Option Addr) (n0 c0 : Nat) (l0 : List UInt8) (l1 : List UInt8) (w : World) (hl0 : Hid (l0.length = n0)) (RD : Hid (Rd w.heap.size w (.slice a0 n0 c0) l0))
    (hl1 : Hid (l1.length = 0)) (h : n0 + 0 ≤ 1048576) :
    Calls Try.prog 3 #[.slice a0 n0 c0, .slice none 0 0, .int .i64 0] w fun e w' => e = .returned (.bool true) ∧ Below w.heap.size w w' := by
  obtain ⟨i0, hi, hz0, hz1, hz2⟩ := info_parts info5
  have hne1 := fun w => run_neq_slice_nil_any (P := Try.prog) w 22 5 none 0 0 0 0 Try.underlying22
  have t1 : ¬ (1048576 : Int) < (n0 : Int) := by omega
  have t2 : ¬ (1048576 : Int) - (n0 : Int) < 0 := by omega
  go_enter Try.func3, Try.ntmps3
  go_wp2_with fail
  refine (bytes3_any _ _ _ _ _ _ _ _ (by unfold maxLen; omega) (by unfold maxLen; omega)).mono ?_
  rintro e w' ⟨rfl, rfl⟩
  rw [show decide (n0 + 0 ≤ 1048576) = true by simp; omega]
  have R1 := hide (rd_nil' w'.heap.size w' hl1.out)
  have HBX := hide (Below.refl w'.heap.size w')
  have RD2 := RD
  clear RD
  go_wp2_with fail
  refine (clone_any _ l0 _ (by rw [hl0.out]; omega) RD2.out).mono ?_
  rintro e wc ⟨v', rfl, ho, hbl⟩
  have HO := hide ho
  have HBL := hide hbl
  clear ho hbl
  go_wp2_with fail
  refine (seg_at _ _ l0 l1 w'.heap.size _ HBL.out.size HO.out (by rw [hl0.out]; omega) (by rw [hl1.out]; omega) (R1.out.below HBL.out)).mono ?_
  rintro e wd ⟨wh, rfl, hsh, ho2, hr2, hbl2⟩
  have HSH := hide hsh
  have RW := hide hr2
  have HBY := hide (HBL.out.trans hbl2)
  clear hsh ho2 hr2 hbl2 HO HBL
  have RD3 := hide ((RD2.out.below HBY.out).mono HBY.out.size)
  have R1' := hide ((R1.out.below HBY.out).mono HBY.out.size)
  have HBZ := hide (HBX.out.trans (HBY.out.mono HBX.out.size))
  clear RD2 R1 HBX HBY
  go_wp2_with fail
  have RK := hide (rd_nil' wd.heap.size wd (l := l1.take 0) (by simp))
  go_region_with (first
    | (go_at_call 7; refine (clone_any _ l0 _ (by rw [hl0.out]; omega) (by exact rd_drew RD3.out)).mono ?_; rintro e we ⟨ve, rfl, hoe, hble⟩)
    | (go_at_call 6; refine (seg_at _ _ l0 (l1.take 0) wd.heap.size _ hble.size hoe (by rw [hl0.out]; omega) (by rw [List.length_take, hl1.out]; omega) (by exact (rd_drew RK.out).below hble)).mono ?_; rintro e wf ⟨pt, rfl, hshp, hop, hrp, hblp⟩))
  have HBV := hide (((Below.refl wd.heap.size wd).drew.trans hble).trans hblp)
  have HOP := hide hop
  have RW2 := hide (RW.out.below HBV.out)
  have RD4 := hide (RD3.out.below HBV.out)
  have RT := hide (rd_nil' wd.heap.size wf (l := l1.drop 0) (by rw [List.drop_zero]; exact hl1.out))
  have R14 := hide (R1'.out.below HBV.out)
  have HSZ := hide HBV.out.size
  have HBU := hide (HBZ.out.trans (HBV.out.mono HBZ.out.size))
  have HSW := hide HBZ.out.size
  clear hoe hble hshp hop hrp hblp RW RD3 R1' HBZ RK HBV
  go_wp2_with fail
  refine (seg_at _ _ _ (l1.drop 0) wd.heap.size _ HSZ.out HOP.out (part_le hl0.out hl1.out h 0) (by rw [List.length_drop, hl1.out]; omega) RT.out).mono ?_
  rintro e wg ⟨p2, rfl, hsh2, hop2, hrp2, hbl2⟩
  have RP := hide hrp2
  have HSX := hide (Nat.le_trans HSZ.out hbl2.size)
  have RW3 := hide ((RW2.out.below hbl2).mono HSX.out)
  have RD5 := hide ((RD4.out.below hbl2).mono HSX.out)
  have R15 := hide ((R14.out.below hbl2).mono HSX.out)
  have HBT := hide (HBU.out.trans (hbl2.mono HSW.out))
  clear hsh2 hop2 hrp2 hbl2 HOP RT RW2 RD4 R14 HBU HSZ HSX HSW
  rcases HSH.out with ⟨hwh, hN⟩ | ⟨gw, cw, hwh⟩
  · subst hwh
    have HZ := whole_len l0 l1 n0 0 hl0.out hl1.out
    rw [hN] at HZ
    obtain rfl : n0 = 0 := by omega
    have RHD := hide (rd_nil' wg.heap.size wg hl0.out)
    have RTL := hide (rd_nil' wg.heap.size wg (l := Pl.enc l1) (by rw [List.length_append] at hN; omega))
    clear HSH hN HZ
    go_wp2_with fail
    refine (eq_any _ _ (l0 ++ Pl.enc l1) (l0 ++ Pl.enc (l1.take 0) ++ Pl.enc (l1.drop 0)) _ _ RW3.out RP.out).mono ?_
    rintro e wq ⟨rfl, nq, hwq⟩
    rw [same_parts l0 l1 0]
    have HWQ := hide hwq
    clear hwq
    go_wp2_with fail
    refine (eq_any _ _ l0 l0 _ _ (RHD.out.drewN HWQ.out) (RD5.out.drewN HWQ.out)).mono ?_
    rintro e wr ⟨rfl, nq2, hwr⟩
    rw [show (l0 == l0) = true by simp]
    have HWR := hide hwr
    clear hwr
    go_wp2_with fail
    refine (canon_any _ _ l1 _ _ (by rw [hl1.out]; omega) ((RTL.out.drewN HWQ.out).drewN HWR.out) ((R15.out.drewN HWQ.out).drewN HWR.out)).mono ?_
    rintro e ws ⟨rfl, hws⟩
    have HWS := hide hws
    clear hws
    go_wp2
    go_ret
    refine ⟨rfl, ?_⟩
    rw [HWS.out, HWR.out, HWQ.out]
    exact below_drewN (below_drewN HBT.out _) _
  · subst hwh
    have HNL := hide (whole_len l0 l1 n0 0 hl0.out hl1.out)
    obtain ⟨hcN, hcM⟩ := (rd_cells RW3.out).2
    obtain ⟨N, hN⟩ : ∃ N, N = (l0 ++ Pl.enc l1).length := ⟨_, rfl⟩
    rw [← hN] at RW3 hcN
    rw [← hN]
    have nN : n0 + 0 ≤ N := by rw [hN]; exact HNL.out.1
    have hNb : N ≤ 4194304 := by have := HNL.out.2; omega
    have RHD := hide (rd_head RW3.out n0 (by omega))
    have RTL := hide (rd_tail RW3.out n0 (by omega))
    rw [List.take_append_of_le_length (by rw [hl0.out]; omega), List.take_of_length_le (by rw [hl0.out]; omega)] at RHD
    rw [List.drop_append_of_le_length (by rw [hl0.out]; omega), List.drop_eq_nil_of_le (by rw [hl0.out]; omega), List.nil_append, Nat.zero_add] at RTL
    have HN := hide hN
    have hupper := HNL.out.2
    clear hN HNL HSH hcM
    by_cases hcw : cw = n0
    · have hNn : N = n0 := by omega
      have RTL0 := hide (rd_empty wg.heap.size wg (some ⟨gw, 0, none⟩) 0 (fun e => by cases e) (Nat.zero_le _) (l := Pl.enc l1) (by have := HN.out; rw [List.length_append, hl0.out] at this; omega))
      clear RTL
      have RTL := RTL0
      subst hcw
      subst hNn
      go_wp2_with fail
      refine (eq_any _ _ (l0 ++ Pl.enc l1) (l0 ++ Pl.enc (l1.take 0) ++ Pl.enc (l1.drop 0)) _ _ RW3.out RP.out).mono ?_
      rintro e wq ⟨rfl, nq, hwq⟩
      rw [same_parts l0 l1 0]
      have HWQ := hide hwq
      clear hwq
      go_wp2_with fail
      refine (eq_any _ _ l0 l0 _ _ (RHD.out.drewN HWQ.out) (RD5.out.drewN HWQ.out)).mono ?_
      rintro e wr ⟨rfl, nq2, hwr⟩
      rw [show (l0 == l0) = true by simp]
      have HWR := hide hwr
      clear hwr
      go_wp2_with fail
      refine (canon_any _ _ l1 _ _ (by rw [hl1.out]; omega) ((RTL.out.drewN HWQ.out).drewN HWR.out) ((R15.out.drewN HWQ.out).drewN HWR.out)).mono ?_
      rintro e ws ⟨rfl, hws⟩
      have HWS := hide hws
      clear hws
      go_wp2
      go_ret
      refine ⟨rfl, ?_⟩
      rw [HWS.out, HWR.out, HWQ.out]
      exact below_drewN (below_drewN HBT.out _) _
    · go_wp2_with fail
      refine (eq_any _ _ (l0 ++ Pl.enc l1) (l0 ++ Pl.enc (l1.take 0) ++ Pl.enc (l1.drop 0)) _ _ RW3.out RP.out).mono ?_
      rintro e wq ⟨rfl, nq, hwq⟩
      rw [same_parts l0 l1 0]
      have HWQ := hide hwq
      clear hwq
      go_wp2_with fail
      refine (eq_any _ _ l0 l0 _ _ (RHD.out.drewN HWQ.out) (RD5.out.drewN HWQ.out)).mono ?_
      rintro e wr ⟨rfl, nq2, hwr⟩
      rw [show (l0 == l0) = true by simp]
      have HWR := hide hwr
      clear hwr
      go_wp2_with fail
      refine (canon_any _ _ l1 _ _ (by rw [hl1.out]; omega) ((RTL.out.drewN HWQ.out).drewN HWR.out) ((R15.out.drewN HWQ.out).drewN HWR.out)).mono ?_
      rintro e ws ⟨rfl, hws⟩
      have HWS := hide hws
      clear hws
      go_wp2
      go_ret
      refine ⟨rfl, ?_⟩
      rw [HWS.out, HWR.out, HWQ.out]
      exact below_drewN (below_drewN HBT.out _) _

set_option maxRecDepth 100000 in
theorem spl_big (a1 : Option Addr) (n1 c1 : Nat) (a2 : Option Addr) (n2 c2 : Nat) (k : Int) (w : World) (h1 : n1 ≤ maxLen) (h2 : n2 ≤ maxLen) (h : ¬ n1 + n2 ≤ 1048576) :
    Calls Try.prog 3 #[.slice a1 n1 c1, .slice a2 n2 c2, .int .i64 k] w fun e w' => e = .returned (.bool true) ∧ Below w.heap.size w w' := by
  go_enter Try.func3, Try.ntmps3
  go_wp2_with fail
  refine (bytes3_any _ _ _ _ _ _ _ _ h1 h2).mono ?_
  rintro e w' ⟨rfl, rfl⟩
  rw [show decide (n1 + n2 ≤ 1048576) = false by simp [h]]
  go_wp2
  go_ret
  exact ⟨rfl, Below.refl _ _⟩
set_option maxRecDepth 100000 in
theorem spl_out (a1 : Option Addr) (n1 c1 : Nat) (a2 : Option Addr) (n2 c2 : Nat) (k : Int) (w : World) (h : n1 + n2 ≤ 1048576) (hk : k < 0 ∨ (n2 : Int) < k) :
    Calls Try.prog 3 #[.slice a1 n1 c1, .slice a2 n2 c2, .int .i64 k] w fun e w' => e = .returned (.bool true) ∧ Below w.heap.size w w' := by
  have t1 : ¬ (1048576 : Int) < (n1 : Int) := by omega
  have t2 : ¬ (1048576 : Int) - (n1 : Int) < (n2 : Int) := by omega
  rcases hk with hk | hk
  all_goals
    go_enter Try.func3, Try.ntmps3
    go_wp2_with fail
    refine (bytes3_any _ _ _ _ _ _ _ _ (by unfold maxLen; omega) (by unfold maxLen; omega)).mono ?_
    rintro e w' ⟨rfl, rfl⟩
    rw [show decide (n1 + n2 ≤ 1048576) = true by simp [h]]
    go_wp2
    all_goals
      go_ret
      exact ⟨rfl, Below.refl _ _⟩

theorem row_le {w : World} {a : Option Addr} {len cap : Nat} {zs : List Int} (h : IsRow8 w a len cap zs) : len ≤ maxLen := by
  rcases h with ⟨_, rfl, _, _⟩ | ⟨x, _, h1, h2, _⟩
  · exact Nat.zero_le _
  · omega
theorem row_nil {w : World} {len cap : Nat} {zs : List Int} (h : IsRow8 w none len cap zs) : len = 0 ∧ cap = 0 := by
  rcases h with ⟨_, h1, h2, _⟩ | ⟨x, h1, _⟩
  · exact ⟨h1, h2⟩
  · cases h1

/-- THE WALK: whatever the input. -/
theorem spl_walk (a0 : Option Addr) (len0 cap0 : Nat) (z0 : List Int) (a1 : Option Addr) (len1 cap1 : Nat) (z1 : List Int) (k : Int) (w : World) (w0 : IsRow8 w a0 len0 cap0 z0) (w1 : IsRow8 w a1 len1 cap1 z1) :
    Calls Try.prog 3 #[.slice a0 len0 cap0, .slice a1 len1 cap1, .int .i64 k] w fun e w' => e = .returned (.bool true) ∧ Below w.heap.size w w' := by
  by_cases h : len0 + len1 ≤ 1048576
  · by_cases hk : k < 0 ∨ (len1 : Int) < k
    · exact spl_out a0 len0 cap0 a1 len1 cap1 k w h hk
    · obtain ⟨l0, e0, r0⟩ := isRow_rd w0
      obtain ⟨l1, e1, r1⟩ := isRow_rd w1
      obtain ⟨k, rfl⟩ := Int.eq_ofNat_of_zero_le (show 0 ≤ k by omega)
      cases a1 with
      | none =>
        obtain ⟨rfl, rfl⟩ := row_nil w1
        obtain rfl : k = 0 := by omega
        exact spl_nil a0 len0 cap0 l0 l1 w e0 r0 e1 h
      | some A1 =>
        by_cases hkn : k < len1
        · exact spl_lt a0 len0 cap0 l0 A1 len1 cap1 l1 k w e0 r0 e1 r1 h hkn
        · obtain rfl : k = len1 := by omega
          exact spl_eq a0 len0 cap0 l0 A1 k cap1 l1 w e0 r0 e1 r1 h
  · exact spl_big a0 len0 cap0 a1 len1 cap1 k w (row_le w0) (row_le w1) h
end Go.Proofs.Qxb6618073a
