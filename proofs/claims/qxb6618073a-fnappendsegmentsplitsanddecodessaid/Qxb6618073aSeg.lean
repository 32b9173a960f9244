/-
  THE CONTRACT of appendSegment.
-/
import Derived.Test.Qxb6618073aLeaf
import Derived.Deep.AppendLies
import Derived.Deep.RegionLaw
import Derived.Deep.DrawnRows
namespace Go.Proofs.Qxb6618073a
open Go.RowKit
attribute [local go_sem ↓] Go.wp_at_zero Go.wp_at_succ

theorem info5 : (Try.prog.info? 5).map (fun i => (i.zero, i.size, i.bytes)) = some (some (.int .u8 0), 1, 1) := by kernel_rfl
/-- The bytes as cells. -/
def cellsU (l : List UInt8) : List Value := l.map fun c => .int .u8 (c.toNat : Int)
theorem cellsU_length (l : List UInt8) : (cellsU l).length = l.length := by unfold cellsU; simp
theorem cellsU_append (l m : List UInt8) : cellsU (l ++ m) = cellsU l ++ cellsU m := by unfold cellsU; simp

theorem below_own {B : Nat} {w wr w3 : World} {o : Obj} {v : Value} {e : TypeId} {size n : Nat} {xs : List Value} (h : Below B w wr) (hB : B ≤ w.heap.size) (hown : wr.ownsRow B e size v n xs) (hg : (wr.alloc o).grownBy w3 v.ownBlock) : Below B w w3 :=
  (h.alloc (by have := h.size; omega) o).grown hg (by simp; have := h.size; omega) (fun k hk => (hown.lt k hk).1)

theorem below_own_d {B : Nat} {w wr w3 : World} {o : Obj} {v : Value} {e : TypeId} {size n : Nat} {xs : List Value} (h : Below B w wr) (hB : B ≤ w.heap.size) (hown : wr.ownsRow B e size v n xs) (hg : (wr.alloc o).drew.grownBy w3 v.ownBlock) : Below B w w3 :=
  (h.alloc (by have := h.size; omega) o).drew.grown hg (by simp; have := h.size; omega) (fun k hk => (hown.lt k hk).1)

/-- One byte of the segment, as it stands in the encoding. -/
theorem seg1 {ld lb : List UInt8} {k : Nat} {xs : List Value} {x : Int} (hk : k < lb.length) (hx : x = (lb[k].toNat : Int)) (hu : Pl.unrI x = true) (h : xs = cellsU (ld ++ Pl.enc (lb.take k))) :
    xs ++ [Value.int .u8 x] = cellsU (ld ++ Pl.enc (lb.take (k + 1))) := by
  rw [Pl.enc_take lb k hk, ← List.append_assoc, cellsU_append, ← h]
  unfold Pl.enc1 Pl.unr
  rw [← hx, if_pos hu]
  unfold cellsU
  simp [hx]
theorem seg3 {ld lb : List UInt8} {k : Nat} {xs : List Value} {x : Int} (hk : k < lb.length) (hx : x = (lb[k].toNat : Int)) (hu : Pl.unrI x = false) (h : xs = cellsU (ld ++ Pl.enc (lb.take k))) :
    xs ++ [Value.int .u8 37, Value.int .u8 (Pl.hxI (x / 16)), Value.int .u8 (Pl.hxI (x % 16))] = cellsU (ld ++ Pl.enc (lb.take (k + 1))) := by
  rw [Pl.enc_take lb k hk, ← List.append_assoc, cellsU_append, ← h]
  unfold Pl.enc1 Pl.unr
  have hl := Pl.u8lt lb[k]
  rw [← hx, if_neg (by rw [hu]; simp)]
  unfold cellsU
  simp only [List.map_cons, List.map_nil]
  rw [Pl.hx_val _ (by omega), Pl.hx_val _ (by omega), hx]
  rfl

/-- The ways through the switch. -/
theorem ways (x : Int) :
    ((97 ≤ x ∧ x ≤ 122) ∧ Pl.unrI x = true) ∨ ((65 ≤ x ∧ x ≤ 90) ∧ Pl.unrI x = true) ∨ ((48 ≤ x ∧ x ≤ 57) ∧ Pl.unrI x = true) ∨ (x = 45 ∧ Pl.unrI x = true) ∨ (x = 46 ∧ Pl.unrI x = true) ∨ (x = 95 ∧ Pl.unrI x = true) ∨ (x = 126 ∧ Pl.unrI x = true) ∨
    ((¬ (97 ≤ x ∧ x ≤ 122) ∧ ¬ (65 ≤ x ∧ x ≤ 90) ∧ ¬ (48 ≤ x ∧ x ≤ 57) ∧ (x == 45) = false ∧ (x == 46) = false ∧ (x == 95) = false ∧ (x == 126) = false) ∧ Pl.unrI x = false) := by
  unfold Pl.unrI
  simp only [decide_eq_true_eq, decide_eq_false_iff_not, beq_eq_false_iff_ne]
  omega

theorem and15 (x : Int) (h0 : 0 ≤ x) (h1 : x ≤ 255) : bits BinOp.and IntKind.u8 x 15 = x % 16 := by
  rw [u8_and x 15 h0 (by omega) (by omega) (by omega)]
  have : (15 : Int).toNat = 2 ^ 4 - 1 := rfl
  rw [this, Nat.and_two_pow_sub_one_eq_mod]
  omega
/-- A digit out of the table. -/
theorem idx_hex (d : Int) (h0 : 0 ≤ d) (h1 : d < 16) (w : World) :
    (Instr.index 9 (.string ⟨#[48, 49, 50, 51, 52, 53, 54, 55, 56, 57, 65, 66, 67, 68, 69, 70]⟩) (.int .u8 d)).run Try.prog w = .ok (.int .u8 (Pl.hxI d)) w := by
  rw [run_index_string w 9 _ .u8 d Try.underlying9]
  have hs : ((⟨#[48, 49, 50, 51, 52, 53, 54, 55, 56, 57, 65, 66, 67, 68, 69, 70]⟩ : ByteArray).size : Int) = 16 := rfl
  rw [dif_pos ⟨h0, by rw [hs]; exact h1⟩]
  obtain ⟨n, rfl⟩ := Int.eq_ofNat_of_zero_le h0
  have hn : n < 16 := by omega
  have key : ∀ n : Fin 16, ((⟨#[48, 49, 50, 51, 52, 53, 54, 55, 56, 57, 65, 66, 67, 68, 69, 70]⟩ : ByteArray)[n.val]'n.isLt).toNat = (Pl.hxI (n.val : Int)).toNat := by decide
  have k2 := key ⟨n, hn⟩
  have h3 : 0 ≤ Pl.hxI (n : Int) := by unfold Pl.hxI; split <;> omega
  congr 2
  simp only [Int.toNat_natCast] at k2 ⊢
  omega

set_option maxRecDepth 100000 in
set_option maxHeartbeats 1600000 in
theorem seg_some (vd : Value) (n : Nat) (ld lb : List UInt8) (xs0 : List Value) (b o cap : Nat) (B : Nat) (w : World) (hB : B ≤ w.heap.size) (hx0 : Hid (xs0 = cellsU ld)) (hown0 : w.ownsRow B 5 1 vd n xs0) (hn : n ≤ 4194304) (hlb : lb.length ≤ 1048576) (hbB : b < B)
    (HC : Hid (∀ i (h : i < lb.length), w.cell? ⟨b, o + i, none⟩ = some (.int .u8 (lb[i].toNat : Int)))) :
    Calls Try.prog 12 #[vd, .slice (some ⟨b, o, none⟩) lb.length cap] w fun e w' => ∃ v', e = .returned v' ∧ w'.ownsRow B 5 1 v' (ld ++ Pl.enc lb).length (cellsU (ld ++ Pl.enc lb)) ∧ Below B w w' := by
  obtain ⟨i0, hi, hz0, hz1, hz2⟩ := info_parts info5
  have HO0 := hide hown0
  clear hown0
  go_enter Try.func12, Try.ntmps12
  go_wp2
  go_loopw [0, 6, 9] (fun v _ i wr => ∃ (k m : Nat) (xs : List Value), k ≤ lb.length ∧ m ≤ n + 3 * k ∧ i = .int .i64 k ∧ wr.ownsRow B 5 1 v m xs ∧ Hid (xs = cellsU (ld ++ Pl.enc (lb.take k))) ∧ Below B w wr) (fun _ _ i _ => lb.length - (intOf i).toNat)
  case atStart => exact ⟨0, n, xs0, Nat.zero_le _, by omega, rfl, HO0.out, by rw [hx0.out]; simp [Pl.enc_nil, Hid], Below.refl _ _⟩
  case round =>
    obtain ⟨k, m, xs, hk, hm, rfl, hown, HX, hnx⟩ := hrel
    clear HO0
    have hsz := hnx.size
    by_cases hlt : k < lb.length
    · obtain ⟨x, hx⟩ : ∃ x : Int, x = (lb[k].toNat : Int) := ⟨_, rfl⟩
      have hck : wr.cell? ⟨b, o + k, none⟩ = some (.int .u8 x) := by rw [hx, hnx.cell (p := ⟨b, o + k, none⟩) hbB]; exact HC.out k hlt
      have x0 : 0 ≤ x := by omega
      have x1 : x ≤ 255 := by have := Pl.u8lt lb[k]; omega
      have i1 : (k : Int) < (lb.length : Int) := by omega
      have HXX := hide hx
      clear hx
      rcases ways x with ⟨h, hu⟩ | ⟨h, hu⟩ | ⟨h, hu⟩ | ⟨h, hu⟩ | ⟨h, hu⟩ | ⟨h, hu⟩ | ⟨h, hu⟩ | ⟨h, hu⟩
      · have HU := hide hu
        obtain ⟨h1, h2⟩ := h
        clear hu
        go_wp2_with (at_builtin; refine wpList_append_own _ rfl (.tmp 49) (.tmp 51) 22 rfl B 5 i0 (.int .u8 0) 1 1 Try.underlying22 hi hz0 hz1 hz2 rfl (by decide) _ _ _ rfl (hown.alloc _) ⟨wr.heap.size, 0, none⟩ 1 1 [.int .u8 x] rfl rfl (cell_one_new _ _ _) (by simp [Value.oneCell']) (by unfold maxLen; omega) (by omega) (by simp; omega) ?_)
        intro v' w3 hown3 hgrow3 _
        have HX3 := hide (below_own hnx hB hown hgrow3)
        have HO3 := hide hown3
        have HS := hide (seg1 hlt HXX.out HU.out HX.out)
        clear hown hgrow3 hnx hown3 HX
        go_wp2
        go_roundw
        case rel => exact ⟨k + 1, m + 1, _, by omega, by omega, by go_num, HO3.out, HS, HX3.out⟩
        case measure => simp [intOf]; omega
      · have HU := hide hu
        obtain ⟨h1, h2⟩ := h
        clear hu
        go_wp2_with (at_builtin; refine wpList_append_own _ rfl (.tmp 49) (.tmp 51) 22 rfl B 5 i0 (.int .u8 0) 1 1 Try.underlying22 hi hz0 hz1 hz2 rfl (by decide) _ _ _ rfl (hown.alloc _) ⟨wr.heap.size, 0, none⟩ 1 1 [.int .u8 x] rfl rfl (cell_one_new _ _ _) (by simp [Value.oneCell']) (by unfold maxLen; omega) (by omega) (by simp; omega) ?_)
        intro v' w3 hown3 hgrow3 _
        have HX3 := hide (below_own hnx hB hown hgrow3)
        have HO3 := hide hown3
        have HS := hide (seg1 hlt HXX.out HU.out HX.out)
        clear hown hgrow3 hnx hown3 HX
        go_wp2
        go_roundw
        case rel => exact ⟨k + 1, m + 1, _, by omega, by omega, by go_num, HO3.out, HS, HX3.out⟩
        case measure => simp [intOf]; omega
      · have HU := hide hu
        obtain ⟨h1, h2⟩ := h
        clear hu
        go_wp2_with (at_builtin; refine wpList_append_own _ rfl (.tmp 49) (.tmp 51) 22 rfl B 5 i0 (.int .u8 0) 1 1 Try.underlying22 hi hz0 hz1 hz2 rfl (by decide) _ _ _ rfl (hown.alloc _) ⟨wr.heap.size, 0, none⟩ 1 1 [.int .u8 x] rfl rfl (cell_one_new _ _ _) (by simp [Value.oneCell']) (by unfold maxLen; omega) (by omega) (by simp; omega) ?_)
        intro v' w3 hown3 hgrow3 _
        have HX3 := hide (below_own hnx hB hown hgrow3)
        have HO3 := hide hown3
        have HS := hide (seg1 hlt HXX.out HU.out HX.out)
        clear hown hgrow3 hnx hown3 HX
        go_wp2
        go_roundw
        case rel => exact ⟨k + 1, m + 1, _, by omega, by omega, by go_num, HO3.out, HS, HX3.out⟩
        case measure => simp [intOf]; omega
      · have HU := hide hu
        have b45 : (x == 45) = true := by rw [h]; rfl
        have lo : 44 < x := by omega
        have hi' : x < 46 := by omega
        clear hu h
        go_wp2_with (at_builtin; refine wpList_append_own _ rfl (.tmp 49) (.tmp 51) 22 rfl B 5 i0 (.int .u8 0) 1 1 Try.underlying22 hi hz0 hz1 hz2 rfl (by decide) _ _ _ rfl (hown.alloc _) ⟨wr.heap.size, 0, none⟩ 1 1 [.int .u8 x] rfl rfl (cell_one_new _ _ _) (by simp [Value.oneCell']) (by unfold maxLen; omega) (by omega) (by simp; omega) ?_)
        intro v' w3 hown3 hgrow3 _
        have HX3 := hide (below_own hnx hB hown hgrow3)
        have HO3 := hide hown3
        have HS := hide (seg1 hlt HXX.out HU.out HX.out)
        clear hown hgrow3 hnx hown3 HX
        go_wp2
        go_roundw
        case rel => exact ⟨k + 1, m + 1, _, by omega, by omega, by go_num, HO3.out, HS, HX3.out⟩
        case measure => simp [intOf]; omega
      · have HU := hide hu
        have b45 : (x == 45) = false := by rw [h]; rfl
        have b46 : (x == 46) = true := by rw [h]; rfl
        have lo : 45 < x := by omega
        have hi' : x < 47 := by omega
        clear hu h
        go_wp2_with (at_builtin; refine wpList_append_own _ rfl (.tmp 49) (.tmp 51) 22 rfl B 5 i0 (.int .u8 0) 1 1 Try.underlying22 hi hz0 hz1 hz2 rfl (by decide) _ _ _ rfl (hown.alloc _) ⟨wr.heap.size, 0, none⟩ 1 1 [.int .u8 x] rfl rfl (cell_one_new _ _ _) (by simp [Value.oneCell']) (by unfold maxLen; omega) (by omega) (by simp; omega) ?_)
        intro v' w3 hown3 hgrow3 _
        have HX3 := hide (below_own hnx hB hown hgrow3)
        have HO3 := hide hown3
        have HS := hide (seg1 hlt HXX.out HU.out HX.out)
        clear hown hgrow3 hnx hown3 HX
        go_wp2
        go_roundw
        case rel => exact ⟨k + 1, m + 1, _, by omega, by omega, by go_num, HO3.out, HS, HX3.out⟩
        case measure => simp [intOf]; omega
      · have HU := hide hu
        have b45 : (x == 45) = false := by rw [h]; rfl
        have b46 : (x == 46) = false := by rw [h]; rfl
        have b95 : (x == 95) = true := by rw [h]; rfl
        have lo : 94 < x := by omega
        have hi' : x < 96 := by omega
        clear hu h
        go_wp2_with (at_builtin; refine wpList_append_own _ rfl (.tmp 49) (.tmp 51) 22 rfl B 5 i0 (.int .u8 0) 1 1 Try.underlying22 hi hz0 hz1 hz2 rfl (by decide) _ _ _ rfl (hown.alloc _) ⟨wr.heap.size, 0, none⟩ 1 1 [.int .u8 x] rfl rfl (cell_one_new _ _ _) (by simp [Value.oneCell']) (by unfold maxLen; omega) (by omega) (by simp; omega) ?_)
        intro v' w3 hown3 hgrow3 _
        have HX3 := hide (below_own hnx hB hown hgrow3)
        have HO3 := hide hown3
        have HS := hide (seg1 hlt HXX.out HU.out HX.out)
        clear hown hgrow3 hnx hown3 HX
        go_wp2
        go_roundw
        case rel => exact ⟨k + 1, m + 1, _, by omega, by omega, by go_num, HO3.out, HS, HX3.out⟩
        case measure => simp [intOf]; omega
      · have HU := hide hu
        have b45 : (x == 45) = false := by rw [h]; rfl
        have b46 : (x == 46) = false := by rw [h]; rfl
        have b95 : (x == 95) = false := by rw [h]; rfl
        have b126 : (x == 126) = true := by rw [h]; rfl
        have lo : 125 < x := by omega
        have hi' : x < 127 := by omega
        clear hu h
        go_wp2_with (at_builtin; refine wpList_append_own _ rfl (.tmp 49) (.tmp 51) 22 rfl B 5 i0 (.int .u8 0) 1 1 Try.underlying22 hi hz0 hz1 hz2 rfl (by decide) _ _ _ rfl (hown.alloc _) ⟨wr.heap.size, 0, none⟩ 1 1 [.int .u8 x] rfl rfl (cell_one_new _ _ _) (by simp [Value.oneCell']) (by unfold maxLen; omega) (by omega) (by simp; omega) ?_)
        intro v' w3 hown3 hgrow3 _
        have HX3 := hide (below_own hnx hB hown hgrow3)
        have HO3 := hide hown3
        have HS := hide (seg1 hlt HXX.out HU.out HX.out)
        clear hown hgrow3 hnx hown3 HX
        go_wp2
        go_roundw
        case rel => exact ⟨k + 1, m + 1, _, by omega, by omega, by go_num, HO3.out, HS, HX3.out⟩
        case measure => simp [intOf]; omega
      · have HU := hide hu
        obtain ⟨g1, g2, g3, b1, b2, b3, b4⟩ := h
        have j1 : 0 ≤ x / 16 := by omega
        have j2 : x / 16 < 16 := by omega
        have j3 : 0 ≤ x % 16 := by omega
        have j4 : x % 16 < 16 := by omega
        have hA := idx_hex (x / 16) j1 j2
        have hB' := idx_hex (x % 16) j3 j4
        have hand : bits BinOp.and IntKind.u8 x 15 = x % 16 := and15 x x0 x1
        rcases (show x < 48 ∨ (57 < x ∧ x < 65) ∨ (90 < x ∧ x < 97) ∨ 122 < x from by omega) with hq | hq | hq | hq
        all_goals
          clear g1 g2 g3
          try obtain ⟨q1, q2⟩ := hq
          go_wp2_with fail
          go_region_law ((refine step_append_lies _ (by rfl) (.tmp 13) (.tmp 20) 22 (by rfl) B 5 i0 (.int .u8 0) 1 1 Try.underlying22 hi hz0 hz1 hz2 rfl (by decide) _ m xs (by rfl) (by exact (hown.alloc _)) ⟨wr.heap.size, 0, none⟩ 3 3 [.int .u8 37, .int .u8 (Pl.hxI (x / 16)), .int .u8 (Pl.hxI (x % 16))] (by rfl) rfl (by exact World.news_of_block (heap_alloc_new wr _)) (by simp [Value.oneCell']) (by decide) (by unfold maxLen; omega) (by omega) (by simp; omega) (wr.heap.size + 1) (by simp) ?_; intro g cap3 w3 hown3 hgrow3 hat3 hlt3))
          all_goals
            have HX3 := hide (below_own_d hnx hB hown hgrow3)
            have HO3 := hide hown3
            have HS := hide (seg3 hlt HXX.out HU.out HX.out)
            clear hown hgrow3 hnx hown3 HX hat3 hlt3 hA hB' hand
            go_wp2
            go_roundw
            case rel => exact ⟨k + 1, m + 3, _, by omega, by omega, by go_num, HO3.out, HS, HX3.out⟩
            case measure => simp [intOf]; omega
    · have HO := hide hown
      have HB := hide hnx
      clear hown hnx
      go_wp2
      go_ret
      refine ⟨_, rfl, ?_, HB.out⟩
      have he : lb.take k = lb := List.take_of_length_le (by omega)
      have h1 := HX.out
      rw [he] at h1
      have h2 := HO.out
      rw [h1] at h2
      have h3 : m = (ld ++ Pl.enc lb).length := by
        have := h2.1
        rw [cellsU_length] at this
        omega
      rw [h3] at h2
      exact h2
end Go.Proofs.Qxb6618073a
