/-
  THE WALK of FnTrailingGroupAfterClosedGroup.
-/
import Derived.Test.Qxb6617436aEsc
namespace Go.Proofs.Qxb6617436a
open Go.RowKit

theorem closed_no (a b t : ByteArray) (w : World) (ha : a.size ≤ maxLen) (hb : b.size ≤ maxLen) (ht : t.size ≤ maxLen) (h : ¬ a.size + b.size + t.size ≤ 1048576) :
    Calls Try.prog 4 #[.string a, .string b, .string t] w fun e w' => e = .returned (.bool true) ∧ Below w.heap.size w w' := by
  go_enter Try.func4, Try.ntmps4
  go_wp2_with fail
  refine (bytes3_no _ _ _ _ ha hb ht h).mono ?_
  rintro e w' ⟨rfl, rfl⟩
  go_wp2
  go_ret
  exact ⟨rfl, Below.refl _ _⟩

theorem closed_long (a b t : ByteArray) (w : World) (h : a.size + b.size + t.size ≤ 1048576) (hl : 262144 < a.size ∨ 262144 < b.size ∨ 262144 < t.size) :
    Calls Try.prog 4 #[.string a, .string b, .string t] w fun e w' => e = .returned (.bool true) ∧ Below w.heap.size w w' := by
  go_enter Try.func4, Try.ntmps4
  go_wp2_with fail
  refine (bytes3_yes _ _ _ _ h).mono ?_
  rintro e w' ⟨rfl, rfl⟩
  by_cases h1 : (262144 : Int) < a.size
  · go_wp2
    go_ret
    exact ⟨rfl, Below.refl _ _⟩
  · by_cases h2 : (262144 : Int) < b.size
    · go_wp2
      go_ret
      exact ⟨rfl, Below.refl _ _⟩
    · have h3 : (262144 : Int) < t.size := by omega
      go_wp2
      go_ret
      exact ⟨rfl, Below.refl _ _⟩

/-- The group's text. -/
theorem group_list (ea eb : ByteArray) : (ea ++ (⟨#[40]⟩ : ByteArray) ++ eb ++ (⟨#[41]⟩ : ByteArray)).data.toList = ea.data.toList ++ [40] ++ eb.data.toList ++ [41] := by
  simp [ByteArray.data_append]
theorem group_size (ea eb : ByteArray) : (ea ++ (⟨#[40]⟩ : ByteArray) ++ eb ++ (⟨#[41]⟩ : ByteArray)).size = ea.size + eb.size + 2 := by
  have e1 : (⟨#[40]⟩ : ByteArray).size = 1 := rfl
  have e2 : (⟨#[41]⟩ : ByteArray).size = 1 := rfl
  simp only [ByteArray.size_append, e1, e2]
  omega

theorem group_facts (a b : List UInt8) (ea eb u : ByteArray) (ha : ea.data.toList = Pl.escL a) (hb : eb.data.toList = Pl.escL b) (hu : u = ea ++ (⟨#[40]⟩ : ByteArray) ++ eb ++ (⟨#[41]⟩ : ByteArray)) :
    Pl.tgo u.data.toList false 0 (-1) 0 = (ea.size : Int) ∧ ∀ (T : ByteArray), Pl.tgo (u ++ T).data.toList false 0 (-1) 0 =
      if T.data.toList = [] then (ea.size : Int) else if Pl.tgo T.data.toList false 0 (-1) 0 < 0 then -1 else (u.size : Int) + Pl.tgo T.data.toList false 0 (-1) 0 := by
  have hl : u.data.toList = Pl.escL a ++ [40] ++ Pl.escL b ++ [41] := by rw [hu, group_list, ha, hb]
  have hs : (Pl.escL a).length = ea.size := by rw [← ha]; exact len_list ea
  have hs2 : (Pl.escL a ++ [40] ++ Pl.escL b ++ [41]).length = u.size := by rw [← hl]; exact len_list u
  refine ⟨?_, ?_⟩
  · have := Pl.closed a b []
    rw [List.append_nil, if_pos rfl, hs, ← hl] at this
    exact this
  · intro T
    have := Pl.closed a b T.data.toList
    rw [hs, hs2, ← hl] at this
    rw [ByteArray.data_append, Array.toList_append]
    exact this

/-- The scan's answer lies within the text. -/
theorem tgo_bound : ∀ (l : List UInt8) (esc : Bool) (p : Nat) (st : Int) (d : Nat), st < (p : Int) + l.length → Pl.tgo l esc p st d < (p : Int) + l.length ∨ Pl.tgo l esc p st d = -1
  | [], _, _, _, _, _ => by right; rw [Pl.tgo]
  | _ :: r, true, p, st, d, h => by
    rw [Pl.tgo]
    have := tgo_bound r false (p + 1) st d (by simp at h; omega)
    simp at this ⊢; omega
  | c :: r, false, p, st, d, h => by
    simp only [List.length_cons] at h ⊢
    rw [Pl.tgo]
    by_cases h92 : c = 92
    · rw [if_pos h92]
      have := tgo_bound r true (p + 1) st d (by omega)
      omega
    rw [if_neg h92]
    by_cases h40 : c = 40
    · rw [if_pos h40]
      have := tgo_bound r false (p + 1) (if d = 0 then (p : Int) else st) (d + 1) (by split <;> omega)
      omega
    rw [if_neg h40]
    by_cases h41 : c = 41
    · rw [if_pos h41]
      split
      · right; rfl
      · split
        · left; omega
        · have := tgo_bound r false (p + 1) st (d - 1) (by omega)
          omega
    · rw [if_neg h41]
      have := tgo_bound r false (p + 1) st d (by omega)
      omega
theorem tgo_hi (t : ByteArray) : Pl.tgo t.data.toList false 0 (-1) 0 ≤ (t.size : Int) := by
  have := tgo_bound t.data.toList false 0 (-1) 0 (by omega)
  rw [len_list] at this
  omega

set_option maxRecDepth 100000 in
set_option maxHeartbeats 800000 in
theorem closed_in (a b t : ByteArray) (w : World) (ha : a.size ≤ 262144) (hb : b.size ≤ 262144) (ht : t.size ≤ 262144) (h : a.size + b.size + t.size ≤ 1048576) :
    Calls Try.prog 4 #[.string a, .string b, .string t] w fun e w' => e = .returned (.bool true) ∧ Below w.heap.size w w' := by
  have h1 : ¬ (262144 : Int) < a.size := by omega
  have h2 : ¬ (262144 : Int) < b.size := by omega
  have h3 : ¬ (262144 : Int) < t.size := by omega
  go_enter Try.func4, Try.ntmps4
  go_wp2_with fail
  refine (bytes3_yes _ _ _ _ h).mono ?_
  rintro e w' ⟨rfl, rfl⟩
  go_wp2_with fail
  refine (esc_any a _ (by omega)).mono ?_
  rintro e w1 ⟨rfl, hb1⟩
  have HA : Hid ((⟨(Pl.escL a.data.toList).toArray⟩ : ByteArray).data.toList = Pl.escL a.data.toList) := rfl
  have ea1 : (⟨(Pl.escL a.data.toList).toArray⟩ : ByteArray).size ≤ 524288 := by
    rw [← len_list]; have := Pl.escL_length a.data.toList; rw [len_list] at this; simp; omega
  generalize (⟨(Pl.escL a.data.toList).toArray⟩ : ByteArray) = ea at *
  have HB1 := hide hb1
  clear hb1
  go_wp2_with fail
  refine (esc_any b _ (by omega)).mono ?_
  rintro e w2 ⟨rfl, hb2⟩
  have HB : Hid ((⟨(Pl.escL b.data.toList).toArray⟩ : ByteArray).data.toList = Pl.escL b.data.toList) := rfl
  have eb1 : (⟨(Pl.escL b.data.toList).toArray⟩ : ByteArray).size ≤ 524288 := by
    rw [← len_list]; have := Pl.escL_length b.data.toList; rw [len_list] at this; simp; omega
  generalize (⟨(Pl.escL b.data.toList).toArray⟩ : ByteArray) = eb at *
  have HB2 := hide (HB1.out.trans (hb2.mono HB1.out.size))
  clear hb2 HB1
  obtain ⟨hu1, hu2⟩ := group_facts a.data.toList b.data.toList ea eb _ HA.out HB.out rfl
  have hus := group_size ea eb
  have HU2 := hide (hu2 t)
  have hul : (ea ++ (⟨#[40]⟩ : ByteArray) ++ eb ++ (⟨#[41]⟩ : ByteArray)).size ≤ 1048578 := by omega
  clear hus hu2 HA HB
  go_wp2_with fail
  generalize (ea ++ (⟨#[40]⟩ : ByteArray) ++ eb ++ (⟨#[41]⟩ : ByteArray)) = u at *
  have hut : (u ++ t).size ≤ 4194304 := by rw [ByteArray.size_append]; omega
  refine (zzTrail_any u _ _ (by omega) (hide hu1)).mono ?_
  rintro e w3 ⟨rfl, rfl⟩
  clear hu1
  have t1 : ((ea.size : Int) != (ea.size : Int)) = false := by simp
  cases he : t.toList.isEmpty with
  | true =>
    have HR : Hid (Pl.tgo (u ++ t).data.toList false 0 (-1) 0 = (ea.size : Int)) := by
      have := HU2.out
      rw [if_pos (by rw [ByteArray.toList_eq] at he; exact List.isEmpty_iff.1 he)] at this
      exact this
    clear HU2
    go_wp2_with fail
    refine (zzTrail_any _ _ _ hut HR).mono ?_
    rintro e w4 ⟨rfl, rfl⟩
    go_wp2
    go_ret
    exact ⟨rfl, HB2.out⟩
  | false =>
    have HU3 := HU2.out
    rw [if_neg (by intro h; rw [ByteArray.toList_eq, h] at he; cases he)] at HU3
    obtain ⟨r, hr⟩ : ∃ r, r = Pl.tgo t.data.toList false 0 (-1) 0 := ⟨_, rfl⟩
    rw [← hr] at HU3
    have HRR : Hid (Pl.tgo t.data.toList false 0 (-1) 0 = r) := hr.symm
    have hrb := tgo_hi t
    rw [← hr] at hrb
    clear hr HU2
    by_cases hneg : r < 0
    · have HR : Hid (Pl.tgo (u ++ t).data.toList false 0 (-1) 0 = -1) := by rw [if_pos hneg] at HU3; exact HU3
      clear HU3
      go_wp2_with fail
      refine (zzTrail_any _ _ _ (by omega) HRR).mono ?_
      rintro e w4 ⟨rfl, rfl⟩
      go_wp2_with fail
      refine (zzTrail_any _ _ _ hut HR).mono ?_
      rintro e w4 ⟨rfl, rfl⟩
      go_wp2
      go_ret
      exact ⟨rfl, HB2.out⟩
    · have HR : Hid (Pl.tgo (u ++ t).data.toList false 0 (-1) 0 = (u.size : Int) + r) := by rw [if_neg hneg] at HU3; exact HU3
      clear HU3
      go_wp2_with fail
      refine (zzTrail_any _ _ _ (by omega) HRR).mono ?_
      rintro e w4 ⟨rfl, rfl⟩
      go_wp2_with fail
      refine (zzTrail_any _ _ _ hut HR).mono ?_
      rintro e w4 ⟨rfl, rfl⟩
      go_wp2
      go_ret
      exact ⟨rfl, HB2.out⟩

/-- THE WALK: whatever the input. -/
theorem closed_walk (a b t : ByteArray) (w : World) (ha : a.size ≤ maxLen) (hb : b.size ≤ maxLen) (ht : t.size ≤ maxLen) :
    Calls Try.prog 4 #[.string a, .string b, .string t] w fun e w' => e = .returned (.bool true) ∧ Below w.heap.size w w' := by
  by_cases h : a.size + b.size + t.size ≤ 1048576
  · by_cases hl : 262144 < a.size ∨ 262144 < b.size ∨ 262144 < t.size
    · exact closed_long a b t w h hl
    · exact closed_in a b t w (by omega) (by omega) (by omega) h
  · exact closed_no a b t w ha hb ht h
end Go.Proofs.Qxb6617436a
