/-
  THE WALK of FnAppendSegmentInjectiveAndSlashFree.
-/
import Derived.Test.Qxb6618073aRowIn
namespace Go.Proofs.Qxb6618073a
open Go.RowKit

set_option maxRecDepth 100000 in
set_option maxHeartbeats 1600000 in
theorem inj_ss (A1 : Addr) (n1 c1 : Nat) (l1 : List UInt8) (A2 : Addr) (n2 c2 : Nat) (l2 : List UInt8) (w : World) (hl1 : Hid (l1.length = n1)) (RI1 : Hid (Rd w.heap.size w (.slice (some A1) n1 c1) l1)) (hl2 : Hid (l2.length = n2)) (RI2 : Hid (Rd w.heap.size w (.slice (some A2) n2 c2) l2)) (h : n1 + n2 ≤ 1048576) :
    Calls Try.prog 4 #[.slice (some A1) n1 c1, .slice (some A2) n2 c2] w fun e w' => e = .returned (.bool true) ∧ Below w.heap.size w w' := by
  obtain ⟨i0, hi, hz0, hz1, hz2⟩ := info_parts info5
  have hne1 := fun w => run_neq_slice_nil_any (P := Try.prog) w 22 5 (some A1) n1 c1 0 0 Try.underlying22
  have hne2 := fun w => run_neq_slice_nil_any (P := Try.prog) w 22 5 (some A2) n2 c2 0 0 Try.underlying22
  have t1 : ¬ (1048576 : Int) < (n1 : Int) := by omega
  have t2 : ¬ (1048576 : Int) - ((n1 : Nat) : Int) < ((n2 : Nat) : Int) := by omega
  go_enter Try.func4, Try.ntmps4
  go_wp2_with fail
  refine (bytes2_any _ _ _ _ _ _ _ (by unfold maxLen; omega) (by unfold maxLen; omega)).mono ?_
  rintro e w' ⟨rfl, rfl⟩
  rw [show decide (n1 + n2 ≤ 1048576) = true by simp [h]]
  go_wp2_with (at_make; refine wpList_make_full _ rfl _ _ 22 rfl w'.heap.size 5 i0 (.int .u8 0) 1 Try.underlying22 hi hz0 hz1 _ _ _ _ n1 rfl rfl (by omega) (by omega) (by rw [hz2]; omega) (by unfold maxLen; omega) (Nat.le_refl _) ?_)
  intro wa1 how hg
  obtain ⟨cur1, hcl, hcur1⟩ := made_row how
  have hba : Below w'.heap.size w' wa1 := (Below.refl _ _).grown hg (Nat.le_refl _) (fun _ h => by cases h)
  have RR := RI1.out.below hba
  have S1 := hide (src_of RR)
  have HBA1 := hide hba
  have HCL1 := hide hcl
  clear RR how hg hba hcl
  go_wp2_with ((show wpList _ _ _ ({ dst := _, op := Op.call { callee := Callee.builtin Builtin.copy, args := _, argTypes := _ }, type := _, pos := _, after := _, guard := _ } :: _) _ _); refine wpList_copy_splice rfl (.tmp 27) (.tmp 28) 22 22 rfl 5 Try.underlying22 info5s _ _ _ _ _ _ rfl rfl w'.heap.size 0 cur1 5 hcur1 (cellsU l1) (by rw [cellsU_length, hl1.out]; exact (Nat.min_self _).symm) (fun hp => ⟨rfl, S1.out hp⟩) (by rw [cellsU_length, hl1.out, HCL1.out]; omega) (cellsU_one l1) w'.heap.size w' HBA1.out (Nat.le_refl _) ?_)
  intro wb1 HG hbb
  have R1 := hide (copied hl1.out (by unfold maxLen; omega) HCL1.out HG.out)
  have HBB1 := hide hbb
  clear HG hbb hcur1 S1 HBA1 HCL1
  have RJ2 := hide ((RI2.out.below HBB1.out).mono HBB1.out.size)
  clear RI2
  have RI2 := RJ2
  clear RJ2
  go_wp2_with (at_make; refine wpList_make_full _ rfl _ _ 22 rfl wb1.heap.size 5 i0 (.int .u8 0) 1 Try.underlying22 hi hz0 hz1 _ _ _ _ n2 rfl rfl (by omega) (by omega) (by rw [hz2]; omega) (by unfold maxLen; omega) (Nat.le_refl _) ?_)
  intro wa2 how hg
  obtain ⟨cur2, hcl, hcur2⟩ := made_row how
  have hba : Below wb1.heap.size wb1 wa2 := (Below.refl _ _).grown hg (Nat.le_refl _) (fun _ h => by cases h)
  have RR := RI2.out.below hba
  have S2 := hide (src_of RR)
  have HBA2 := hide hba
  have HCL2 := hide hcl
  clear RR how hg hba hcl
  go_wp2_with ((show wpList _ _ _ ({ dst := _, op := Op.call { callee := Callee.builtin Builtin.copy, args := _, argTypes := _ }, type := _, pos := _, after := _, guard := _ } :: _) _ _); refine wpList_copy_splice rfl (.tmp 36) (.tmp 37) 22 22 rfl 5 Try.underlying22 info5s _ _ _ _ _ _ rfl rfl wb1.heap.size 0 cur2 5 hcur2 (cellsU l2) (by rw [cellsU_length, hl2.out]; exact (Nat.min_self _).symm) (fun hp => ⟨rfl, S2.out hp⟩) (by rw [cellsU_length, hl2.out, HCL2.out]; omega) (cellsU_one l2) wb1.heap.size wb1 HBA2.out (Nat.le_refl _) ?_)
  intro wb2 HG hbb
  have R2 := hide (copied hl2.out (by unfold maxLen; omega) HCL2.out HG.out)
  have HBB2 := hide hbb
  clear HG hbb hcur2 S2 HBA2 HCL2
  have RA := hide ((R1.out.below HBB2.out).mono HBB2.out.size)
  have HBX := hide (HBB1.out.trans (HBB2.out.mono HBB1.out.size))
  have RB := R2
  go_wp2_with fail
  refine (seg_bare _ l1 _ (by rw [hl1.out]; omega) RA.out).mono ?_
  rintro e we1 ⟨ao1, cp1, rfl, hr1, hb1⟩
  have RE1 := hide hr1
  have RA2 := hide ((RA.out.below hb1).mono hb1.size)
  have RB2 := hide ((RB.out.below hb1).mono hb1.size)
  have HB1 := hide (HBX.out.trans (hb1.mono HBX.out.size))
  clear hr1 hb1 RA RB HBX
  go_wp2_with fail
  refine (seg_bare _ l2 _ (by rw [hl2.out]; omega) RB2.out).mono ?_
  rintro e we2 ⟨ao2, cp2, rfl, hr2, hb2⟩
  have RE2 := hide hr2
  have RE1' := hide ((RE1.out.below hb2).mono hb2.size)
  have RA3 := hide ((RA2.out.below hb2).mono hb2.size)
  have RB3 := hide ((RB2.out.below hb2).mono hb2.size)
  have HB2 := hide (HB1.out.trans (hb2.mono HB1.out.size))
  clear hr2 hb2 RA2 RB2 HB1 RE1
  go_wp2_with fail
  refine (eq_any _ _ (Pl.enc l1) (Pl.enc l2) _ _ RE1'.out RE2.out).mono ?_
  rintro e wf ⟨rfl, nq, hwf⟩
  rw [Pl.enc_beq]
  have HWF := hide hwf
  clear hwf
  go_wp2_with fail
  refine (eq_any _ _ l1 l2 _ _ (RA3.out.drewN HWF.out) (RB3.out.drewN HWF.out)).mono ?_
  rintro e wg ⟨rfl, nq2, hwg⟩
  generalize (l1 == l2 : Bool) = r
  have HWG := hide hwg
  clear hwg
  have tr : (r != r) = false := by cases r <;> rfl
  have q1 : n1 ≤ (Pl.enc l1).length ∧ (Pl.enc l1).length ≤ 3 * n1 := by have := Pl.enc_lo l1; rw [hl1.out] at this; exact this
  have q2 : n2 ≤ (Pl.enc l2).length ∧ (Pl.enc l2).length ≤ 3 * n2 := by have := Pl.enc_lo l2; rw [hl2.out] at this; exact this
  obtain ⟨q1a, q1b⟩ := q1
  obtain ⟨q2a, q2b⟩ := q2
  have RE1 := hide ((RE1'.out.drewN HWF.out).drewN HWG.out)
  have RE2' := hide ((RE2.out.drewN HWF.out).drewN HWG.out)
  have SL1 := hide (Pl.enc_slash l1)
  have SL2 := hide (Pl.enc_slash l2)
  generalize hm1 : (Pl.enc l1).length = m1 at *
  generalize hm2 : (Pl.enc l2).length = m2 at *
  have HM1 := hide hm1
  have HM2 := hide hm2
  clear hm1 hm2 RE1' RE2 RA3 RB3
  go_wp2_with fail
  refine (slash_any _ (Pl.enc l1) false _ _ RE1.out SL1).mono ?_
  rintro e wh ⟨rfl, hwh⟩
  have HWH := hide hwh
  clear hwh
  go_wp2_with fail
  refine (slash_any _ (Pl.enc l2) false _ _ (by rw [HWH.out]; exact RE2'.out) SL2).mono ?_
  rintro e wi ⟨rfl, hwi⟩
  have HWI := hide hwi
  clear hwi
  go_wp2
  go_ret
  refine ⟨rfl, ?_⟩
  rw [HWI.out, HWH.out, HWG.out, HWF.out]
  exact below_drewN (below_drewN HB2.out _) _

set_option maxRecDepth 100000 in
set_option maxHeartbeats 1600000 in
theorem inj_sn (A1 : Addr) (n1 c1 : Nat) (l1 : List UInt8) (l2 : List UInt8) (w : World) (hl2 : Hid (l2.length = 0)) (hl1 : Hid (l1.length = n1)) (RI1 : Hid (Rd w.heap.size w (.slice (some A1) n1 c1) l1)) (h : n1 + 0 ≤ 1048576) :
    Calls Try.prog 4 #[.slice (some A1) n1 c1, .slice none 0 0] w fun e w' => e = .returned (.bool true) ∧ Below w.heap.size w w' := by
  obtain ⟨i0, hi, hz0, hz1, hz2⟩ := info_parts info5
  have hne1 := fun w => run_neq_slice_nil_any (P := Try.prog) w 22 5 (some A1) n1 c1 0 0 Try.underlying22
  have hne2 := fun w => run_neq_slice_nil_any (P := Try.prog) w 22 5 none 0 0 0 0 Try.underlying22
  have t1 : ¬ (1048576 : Int) < (n1 : Int) := by omega
  have t2 : ¬ (1048576 : Int) - ((n1 : Nat) : Int) < ((0 : Nat) : Int) := by omega
  go_enter Try.func4, Try.ntmps4
  go_wp2_with fail
  refine (bytes2_any _ _ _ _ _ _ _ (by unfold maxLen; omega) (by unfold maxLen; omega)).mono ?_
  rintro e w' ⟨rfl, rfl⟩
  rw [show decide (n1 + 0 ≤ 1048576) = true by simp; omega]
  go_wp2_with (at_make; refine wpList_make_full _ rfl _ _ 22 rfl w'.heap.size 5 i0 (.int .u8 0) 1 Try.underlying22 hi hz0 hz1 _ _ _ _ n1 rfl rfl (by omega) (by omega) (by rw [hz2]; omega) (by unfold maxLen; omega) (Nat.le_refl _) ?_)
  intro wa1 how hg
  obtain ⟨cur1, hcl, hcur1⟩ := made_row how
  have hba : Below w'.heap.size w' wa1 := (Below.refl _ _).grown hg (Nat.le_refl _) (fun _ h => by cases h)
  have RR := RI1.out.below hba
  have S1 := hide (src_of RR)
  have HBA1 := hide hba
  have HCL1 := hide hcl
  clear RR how hg hba hcl
  go_wp2_with ((show wpList _ _ _ ({ dst := _, op := Op.call { callee := Callee.builtin Builtin.copy, args := _, argTypes := _ }, type := _, pos := _, after := _, guard := _ } :: _) _ _); refine wpList_copy_splice rfl (.tmp 27) (.tmp 28) 22 22 rfl 5 Try.underlying22 info5s _ _ _ _ _ _ rfl rfl w'.heap.size 0 cur1 5 hcur1 (cellsU l1) (by rw [cellsU_length, hl1.out]; exact (Nat.min_self _).symm) (fun hp => ⟨rfl, S1.out hp⟩) (by rw [cellsU_length, hl1.out, HCL1.out]; omega) (cellsU_one l1) w'.heap.size w' HBA1.out (Nat.le_refl _) ?_)
  intro wb1 HG hbb
  have R1 := hide (copied hl1.out (by unfold maxLen; omega) HCL1.out HG.out)
  have HBB1 := hide hbb
  clear HG hbb hcur1 S1 HBA1 HCL1
  have RA := R1
  have HBX := HBB1
  have RB := hide (rd_nil' wb1.heap.size wb1 hl2.out)
  go_wp2_with fail
  refine (seg_bare _ l1 _ (by rw [hl1.out]; omega) RA.out).mono ?_
  rintro e we1 ⟨ao1, cp1, rfl, hr1, hb1⟩
  have RE1 := hide hr1
  have RA2 := hide ((RA.out.below hb1).mono hb1.size)
  have RB2 := hide ((RB.out.below hb1).mono hb1.size)
  have HB1 := hide (HBX.out.trans (hb1.mono HBX.out.size))
  clear hr1 hb1 RA RB HBX
  go_wp2_with fail
  refine (seg_bare _ l2 _ (by rw [hl2.out]; omega) RB2.out).mono ?_
  rintro e we2 ⟨ao2, cp2, rfl, hr2, hb2⟩
  have RE2 := hide hr2
  have RE1' := hide ((RE1.out.below hb2).mono hb2.size)
  have RA3 := hide ((RA2.out.below hb2).mono hb2.size)
  have RB3 := hide ((RB2.out.below hb2).mono hb2.size)
  have HB2 := hide (HB1.out.trans (hb2.mono HB1.out.size))
  clear hr2 hb2 RA2 RB2 HB1 RE1
  go_wp2_with fail
  refine (eq_any _ _ (Pl.enc l1) (Pl.enc l2) _ _ RE1'.out RE2.out).mono ?_
  rintro e wf ⟨rfl, nq, hwf⟩
  rw [Pl.enc_beq]
  have HWF := hide hwf
  clear hwf
  go_wp2_with fail
  refine (eq_any _ _ l1 l2 _ _ (RA3.out.drewN HWF.out) (RB3.out.drewN HWF.out)).mono ?_
  rintro e wg ⟨rfl, nq2, hwg⟩
  generalize (l1 == l2 : Bool) = r
  have HWG := hide hwg
  clear hwg
  have tr : (r != r) = false := by cases r <;> rfl
  have q1 : n1 ≤ (Pl.enc l1).length ∧ (Pl.enc l1).length ≤ 3 * n1 := by have := Pl.enc_lo l1; rw [hl1.out] at this; exact this
  have q2 : 0 ≤ (Pl.enc l2).length ∧ (Pl.enc l2).length ≤ 3 * 0 := by have := Pl.enc_lo l2; rw [hl2.out] at this; exact this
  obtain ⟨q1a, q1b⟩ := q1
  obtain ⟨q2a, q2b⟩ := q2
  have RE1 := hide ((RE1'.out.drewN HWF.out).drewN HWG.out)
  have RE2' := hide ((RE2.out.drewN HWF.out).drewN HWG.out)
  have SL1 := hide (Pl.enc_slash l1)
  have SL2 := hide (Pl.enc_slash l2)
  generalize hm1 : (Pl.enc l1).length = m1 at *
  generalize hm2 : (Pl.enc l2).length = m2 at *
  have HM1 := hide hm1
  have HM2 := hide hm2
  clear hm1 hm2 RE1' RE2 RA3 RB3
  go_wp2_with fail
  refine (slash_any _ (Pl.enc l1) false _ _ RE1.out SL1).mono ?_
  rintro e wh ⟨rfl, hwh⟩
  have HWH := hide hwh
  clear hwh
  go_wp2_with fail
  refine (slash_any _ (Pl.enc l2) false _ _ (by rw [HWH.out]; exact RE2'.out) SL2).mono ?_
  rintro e wi ⟨rfl, hwi⟩
  have HWI := hide hwi
  clear hwi
  go_wp2
  go_ret
  refine ⟨rfl, ?_⟩
  rw [HWI.out, HWH.out, HWG.out, HWF.out]
  exact below_drewN (below_drewN HB2.out _) _

set_option maxRecDepth 100000 in
set_option maxHeartbeats 1600000 in
theorem inj_ns (l1 : List UInt8) (A2 : Addr) (n2 c2 : Nat) (l2 : List UInt8) (w : World) (hl1 : Hid (l1.length = 0)) (hl2 : Hid (l2.length = n2)) (RI2 : Hid (Rd w.heap.size w (.slice (some A2) n2 c2) l2)) (h : 0 + n2 ≤ 1048576) :
    Calls Try.prog 4 #[.slice none 0 0, .slice (some A2) n2 c2] w fun e w' => e = .returned (.bool true) ∧ Below w.heap.size w w' := by
  obtain ⟨i0, hi, hz0, hz1, hz2⟩ := info_parts info5
  have hne1 := fun w => run_neq_slice_nil_any (P := Try.prog) w 22 5 none 0 0 0 0 Try.underlying22
  have hne2 := fun w => run_neq_slice_nil_any (P := Try.prog) w 22 5 (some A2) n2 c2 0 0 Try.underlying22
  have t2 : ¬ (1048576 : Int) - ((0 : Nat) : Int) < ((n2 : Nat) : Int) := by omega
  go_enter Try.func4, Try.ntmps4
  go_wp2_with fail
  refine (bytes2_any _ _ _ _ _ _ _ (by unfold maxLen; omega) (by unfold maxLen; omega)).mono ?_
  rintro e w' ⟨rfl, rfl⟩
  rw [show decide (0 + n2 ≤ 1048576) = true by simp; omega]
  go_wp2_with (at_make; refine wpList_make_full _ rfl _ _ 22 rfl w'.heap.size 5 i0 (.int .u8 0) 1 Try.underlying22 hi hz0 hz1 _ _ _ _ n2 rfl rfl (by omega) (by omega) (by rw [hz2]; omega) (by unfold maxLen; omega) (Nat.le_refl _) ?_)
  intro wa2 how hg
  obtain ⟨cur2, hcl, hcur2⟩ := made_row how
  have hba : Below w'.heap.size w' wa2 := (Below.refl _ _).grown hg (Nat.le_refl _) (fun _ h => by cases h)
  have RR := RI2.out.below hba
  have S2 := hide (src_of RR)
  have HBA2 := hide hba
  have HCL2 := hide hcl
  clear RR how hg hba hcl
  go_wp2_with ((show wpList _ _ _ ({ dst := _, op := Op.call { callee := Callee.builtin Builtin.copy, args := _, argTypes := _ }, type := _, pos := _, after := _, guard := _ } :: _) _ _); refine wpList_copy_splice rfl (.tmp 36) (.tmp 37) 22 22 rfl 5 Try.underlying22 info5s _ _ _ _ _ _ rfl rfl w'.heap.size 0 cur2 5 hcur2 (cellsU l2) (by rw [cellsU_length, hl2.out]; exact (Nat.min_self _).symm) (fun hp => ⟨rfl, S2.out hp⟩) (by rw [cellsU_length, hl2.out, HCL2.out]; omega) (cellsU_one l2) w'.heap.size w' HBA2.out (Nat.le_refl _) ?_)
  intro wb2 HG hbb
  have R2 := hide (copied hl2.out (by unfold maxLen; omega) HCL2.out HG.out)
  have HBB2 := hide hbb
  clear HG hbb hcur2 S2 HBA2 HCL2
  have RA := hide (rd_nil' wb2.heap.size wb2 hl1.out)
  have HBX := HBB2
  have RB := R2
  go_wp2_with fail
  refine (seg_bare _ l1 _ (by rw [hl1.out]; omega) RA.out).mono ?_
  rintro e we1 ⟨ao1, cp1, rfl, hr1, hb1⟩
  have RE1 := hide hr1
  have RA2 := hide ((RA.out.below hb1).mono hb1.size)
  have RB2 := hide ((RB.out.below hb1).mono hb1.size)
  have HB1 := hide (HBX.out.trans (hb1.mono HBX.out.size))
  clear hr1 hb1 RA RB HBX
  go_wp2_with fail
  refine (seg_bare _ l2 _ (by rw [hl2.out]; omega) RB2.out).mono ?_
  rintro e we2 ⟨ao2, cp2, rfl, hr2, hb2⟩
  have RE2 := hide hr2
  have RE1' := hide ((RE1.out.below hb2).mono hb2.size)
  have RA3 := hide ((RA2.out.below hb2).mono hb2.size)
  have RB3 := hide ((RB2.out.below hb2).mono hb2.size)
  have HB2 := hide (HB1.out.trans (hb2.mono HB1.out.size))
  clear hr2 hb2 RA2 RB2 HB1 RE1
  go_wp2_with fail
  refine (eq_any _ _ (Pl.enc l1) (Pl.enc l2) _ _ RE1'.out RE2.out).mono ?_
  rintro e wf ⟨rfl, nq, hwf⟩
  rw [Pl.enc_beq]
  have HWF := hide hwf
  clear hwf
  go_wp2_with fail
  refine (eq_any _ _ l1 l2 _ _ (RA3.out.drewN HWF.out) (RB3.out.drewN HWF.out)).mono ?_
  rintro e wg ⟨rfl, nq2, hwg⟩
  generalize (l1 == l2 : Bool) = r
  have HWG := hide hwg
  clear hwg
  have tr : (r != r) = false := by cases r <;> rfl
  have q1 : 0 ≤ (Pl.enc l1).length ∧ (Pl.enc l1).length ≤ 3 * 0 := by have := Pl.enc_lo l1; rw [hl1.out] at this; exact this
  have q2 : n2 ≤ (Pl.enc l2).length ∧ (Pl.enc l2).length ≤ 3 * n2 := by have := Pl.enc_lo l2; rw [hl2.out] at this; exact this
  obtain ⟨q1a, q1b⟩ := q1
  obtain ⟨q2a, q2b⟩ := q2
  have RE1 := hide ((RE1'.out.drewN HWF.out).drewN HWG.out)
  have RE2' := hide ((RE2.out.drewN HWF.out).drewN HWG.out)
  have SL1 := hide (Pl.enc_slash l1)
  have SL2 := hide (Pl.enc_slash l2)
  generalize hm1 : (Pl.enc l1).length = m1 at *
  generalize hm2 : (Pl.enc l2).length = m2 at *
  have HM1 := hide hm1
  have HM2 := hide hm2
  clear hm1 hm2 RE1' RE2 RA3 RB3
  go_wp2_with fail
  refine (slash_any _ (Pl.enc l1) false _ _ RE1.out SL1).mono ?_
  rintro e wh ⟨rfl, hwh⟩
  have HWH := hide hwh
  clear hwh
  go_wp2_with fail
  refine (slash_any _ (Pl.enc l2) false _ _ (by rw [HWH.out]; exact RE2'.out) SL2).mono ?_
  rintro e wi ⟨rfl, hwi⟩
  have HWI := hide hwi
  clear hwi
  go_wp2
  go_ret
  refine ⟨rfl, ?_⟩
  rw [HWI.out, HWH.out, HWG.out, HWF.out]
  exact below_drewN (below_drewN HB2.out _) _

set_option maxRecDepth 100000 in
set_option maxHeartbeats 1600000 in
theorem inj_nn (l1 : List UInt8) (l2 : List UInt8) (w : World) (hl2 : Hid (l2.length = 0)) (hl1 : Hid (l1.length = 0)) (h : 0 + 0 ≤ 1048576) :
    Calls Try.prog 4 #[.slice none 0 0, .slice none 0 0] w fun e w' => e = .returned (.bool true) ∧ Below w.heap.size w w' := by
  obtain ⟨i0, hi, hz0, hz1, hz2⟩ := info_parts info5
  have hne1 := fun w => run_neq_slice_nil_any (P := Try.prog) w 22 5 none 0 0 0 0 Try.underlying22
  have hne2 := fun w => run_neq_slice_nil_any (P := Try.prog) w 22 5 none 0 0 0 0 Try.underlying22
  have t2 : ¬ (1048576 : Int) - ((0 : Nat) : Int) < ((0 : Nat) : Int) := by omega
  go_enter Try.func4, Try.ntmps4
  go_wp2_with fail
  refine (bytes2_any _ _ _ _ _ _ _ (by unfold maxLen; omega) (by unfold maxLen; omega)).mono ?_
  rintro e w' ⟨rfl, rfl⟩
  rw [show decide (0 + 0 ≤ 1048576) = true by simp]
  have RA := hide (rd_nil' w'.heap.size w' hl1.out)
  have HBX := hide (Below.refl w'.heap.size w')
  have RB := hide (rd_nil' w'.heap.size w' hl2.out)
  go_wp2_with fail
  refine (seg_bare _ l1 _ (by rw [hl1.out]; omega) RA.out).mono ?_
  rintro e we1 ⟨ao1, cp1, rfl, hr1, hb1⟩
  have RE1 := hide hr1
  have RA2 := hide ((RA.out.below hb1).mono hb1.size)
  have RB2 := hide ((RB.out.below hb1).mono hb1.size)
  have HB1 := hide (HBX.out.trans (hb1.mono HBX.out.size))
  clear hr1 hb1 RA RB HBX
  go_wp2_with fail
  refine (seg_bare _ l2 _ (by rw [hl2.out]; omega) RB2.out).mono ?_
  rintro e we2 ⟨ao2, cp2, rfl, hr2, hb2⟩
  have RE2 := hide hr2
  have RE1' := hide ((RE1.out.below hb2).mono hb2.size)
  have RA3 := hide ((RA2.out.below hb2).mono hb2.size)
  have RB3 := hide ((RB2.out.below hb2).mono hb2.size)
  have HB2 := hide (HB1.out.trans (hb2.mono HB1.out.size))
  clear hr2 hb2 RA2 RB2 HB1 RE1
  go_wp2_with fail
  refine (eq_any _ _ (Pl.enc l1) (Pl.enc l2) _ _ RE1'.out RE2.out).mono ?_
  rintro e wf ⟨rfl, nq, hwf⟩
  rw [Pl.enc_beq]
  have HWF := hide hwf
  clear hwf
  go_wp2_with fail
  refine (eq_any _ _ l1 l2 _ _ (RA3.out.drewN HWF.out) (RB3.out.drewN HWF.out)).mono ?_
  rintro e wg ⟨rfl, nq2, hwg⟩
  generalize (l1 == l2 : Bool) = r
  have HWG := hide hwg
  clear hwg
  have tr : (r != r) = false := by cases r <;> rfl
  have q1 : 0 ≤ (Pl.enc l1).length ∧ (Pl.enc l1).length ≤ 3 * 0 := by have := Pl.enc_lo l1; rw [hl1.out] at this; exact this
  have q2 : 0 ≤ (Pl.enc l2).length ∧ (Pl.enc l2).length ≤ 3 * 0 := by have := Pl.enc_lo l2; rw [hl2.out] at this; exact this
  obtain ⟨q1a, q1b⟩ := q1
  obtain ⟨q2a, q2b⟩ := q2
  have RE1 := hide ((RE1'.out.drewN HWF.out).drewN HWG.out)
  have RE2' := hide ((RE2.out.drewN HWF.out).drewN HWG.out)
  have SL1 := hide (Pl.enc_slash l1)
  have SL2 := hide (Pl.enc_slash l2)
  generalize hm1 : (Pl.enc l1).length = m1 at *
  generalize hm2 : (Pl.enc l2).length = m2 at *
  have HM1 := hide hm1
  have HM2 := hide hm2
  clear hm1 hm2 RE1' RE2 RA3 RB3
  go_wp2_with fail
  refine (slash_any _ (Pl.enc l1) false _ _ RE1.out SL1).mono ?_
  rintro e wh ⟨rfl, hwh⟩
  have HWH := hide hwh
  clear hwh
  go_wp2_with fail
  refine (slash_any _ (Pl.enc l2) false _ _ (by rw [HWH.out]; exact RE2'.out) SL2).mono ?_
  rintro e wi ⟨rfl, hwi⟩
  have HWI := hide hwi
  clear hwi
  go_wp2
  go_ret
  refine ⟨rfl, ?_⟩
  rw [HWI.out, HWH.out, HWG.out, HWF.out]
  exact below_drewN (below_drewN HB2.out _) _

set_option maxRecDepth 100000 in
theorem inj_big (a1 : Option Addr) (n1 c1 : Nat) (a2 : Option Addr) (n2 c2 : Nat) (w : World) (h1 : n1 ≤ maxLen) (h2 : n2 ≤ maxLen) (h : ¬ n1 + n2 ≤ 1048576) :
    Calls Try.prog 4 #[.slice a1 n1 c1, .slice a2 n2 c2] w fun e w' => e = .returned (.bool true) ∧ Below w.heap.size w w' := by
  go_enter Try.func4, Try.ntmps4
  go_wp2_with fail
  refine (bytes2_any _ _ _ _ _ _ _ h1 h2).mono ?_
  rintro e w' ⟨rfl, rfl⟩
  rw [show decide (n1 + n2 ≤ 1048576) = false by simp [h]]
  go_wp2
  go_ret
  exact ⟨rfl, Below.refl _ _⟩

theorem row_le {w : World} {a : Option Addr} {len cap : Nat} {zs : List Int} (h : IsRow8 w a len cap zs) : len ≤ maxLen := by
  rcases h with ⟨_, rfl, _, _⟩ | ⟨x, _, h1, h2, _⟩
  · exact Nat.zero_le _
  · omega
theorem row_nil {w : World} {len cap : Nat} {zs : List Int} (h : IsRow8 w none len cap zs) : len = 0 ∧ cap = 0 := by
  rcases h with ⟨_, h1, h2, _⟩ | ⟨x, h1, _⟩
  · exact ⟨h1, h2⟩
  · cases h1

/-- THE WALK: whatever the input. -/
theorem inj_walk (a0 : Option Addr) (len0 cap0 : Nat) (z0 : List Int) (a1 : Option Addr) (len1 cap1 : Nat) (z1 : List Int) (w : World) (w0 : IsRow8 w a0 len0 cap0 z0) (w1 : IsRow8 w a1 len1 cap1 z1) :
    Calls Try.prog 4 #[.slice a0 len0 cap0, .slice a1 len1 cap1] w fun e w' => e = .returned (.bool true) ∧ Below w.heap.size w w' := by
  by_cases h : len0 + len1 ≤ 1048576
  · obtain ⟨l1, e1, r1⟩ := isRow_rd w0
    obtain ⟨l2, e2, r2⟩ := isRow_rd w1
    cases a0 with
    | none =>
      obtain ⟨rfl, rfl⟩ := row_nil w0
      cases a1 with
      | none =>
        obtain ⟨rfl, rfl⟩ := row_nil w1
        exact inj_nn l1 l2 w e2 e1 h
      | some A2 => exact inj_ns l1 A2 len1 cap1 l2 w e1 e2 r2 h
    | some A1 =>
      cases a1 with
      | none =>
        obtain ⟨rfl, rfl⟩ := row_nil w1
        exact inj_sn A1 len0 cap0 l1 l2 w e2 e1 r1 h
      | some A2 => exact inj_ss A1 len0 cap0 l1 A2 len1 cap1 l2 w e1 r1 e2 r2 h
  · exact inj_big a0 len0 cap0 a1 len1 cap1 w (row_le w0) (row_le w1) h
end Go.Proofs.Qxb6618073a
