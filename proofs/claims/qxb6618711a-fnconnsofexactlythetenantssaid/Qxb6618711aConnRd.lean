/-
  A SLICE OF STRINGS THAT CAME IN, as it is read; THE CONTRACT of zzBytes.
-/
import Derived.Test.Qxb6618711aConnIds
namespace Go.Proofs.Qxb6618711a
open Go.RowKit

/-- The slice of strings reads as T; its cells lie below B. -/
def Rs (B : Nat) (w : World) (ao : Option Addr) (T : List ByteArray) : Prop :=
  ∀ k (h : k < T.length), ∃ b o, ao = some ⟨b, o, none⟩ ∧ b < B ∧ w.cell? ⟨b, o + k, none⟩ = some (.string T[k]) ∧ T[k].size ≤ 9223372036854775807
theorem Rs.below {B : Nat} {w w' : World} {ao : Option Addr} {T : List ByteArray} (h : Rs B w ao T) (hb : Below B w w') : Rs B w' ao T := by
  intro k hk
  obtain ⟨b, o, h1, h2, h3, h4⟩ := h k hk
  exact ⟨b, o, h1, h2, (hb.cell (p := ⟨b, o + k, none⟩) h2).trans h3, h4⟩

/-- No string of it is longer than 1<<20 bytes. -/
def Short (T : List ByteArray) (n : Nat) : Prop := ∀ k (h : k < T.length), k < n → T[k].size ≤ 1048576
theorem Short.succ {T : List ByteArray} {k : Nat} (h : Short T k) (hk : k < T.length) (hs : T[k].size ≤ 1048576) : Short T (k + 1) := by
  intro j hj hlt
  by_cases e : j = k
  · subst e; exact hs
  · exact h j hj (by omega)

set_option maxRecDepth 100000 in
set_option maxHeartbeats 1600000 in
theorem bytes_any (ao : Option Addr) (cap : Nat) (T : List ByteArray) (s : ByteArray) (w : World) (hT : T.length ≤ 9223372036854775807) (hs : s.size ≤ 9223372036854775807) (HR : Hid (Rs w.heap.size w ao T)) :
    Calls Try.prog 21 #[.slice ao T.length cap, .string s] w fun e w' => (e = .returned (.bool false) ∧ Below w.heap.size w w') ∨ (e = .returned (.bool true) ∧ Short T T.length ∧ Below w.heap.size w w') := by
  go_enter Try.func21, Try.ntmps21
  by_cases h1 : T.length > 1048576
  · have i1 : (T.length : Int) > 1048576 := by omega
    go_wp2
    go_ret
    exact .inl ⟨rfl, Below.refl _ _⟩
  · have i1 : ¬ (T.length : Int) > 1048576 := by omega
    have i2 : (0 : Int) + (T.length : Int) = (T.length : Int) := by omega
    go_wp2
    go_loopw [5, 6] (fun n i wr => ∃ (m k : Nat), n = .int .i64 m ∧ i = .int .i64 k ∧ m ≤ 1048576 ∧ k ≤ T.length ∧ Short T k ∧ Below w.heap.size w wr) (fun _ i _ => T.length - (intOf i).toNat)
    case atStart => exact ⟨T.length, 0, rfl, rfl, by omega, by omega, fun _ _ h => absurd h (Nat.not_lt_zero _), Below.refl _ _⟩
    case round =>
      obtain ⟨m, k, rfl, rfl, hm, hk, hsh, hbl⟩ := hrel
      have HSH := hideC hsh
      clear hsh
      have HBL := hideC hbl
      have HR1 := hideC (HR.out.below hbl)
      clear hbl
      by_cases hlt : k < T.length
      · obtain ⟨b, o, rfl, hb, hc, hsz⟩ := HR1.out k hlt
        generalize htk : T[k] = t at *
        have HTK := hideC htk
        clear htk
        have i3 : (k : Int) < (T.length : Int) := by omega
        by_cases h2 : t.size > 1048576
        · have i4 : (t.size : Int) > 1048576 := by omega
          go_wp2
          go_ret
          exact .inl ⟨rfl, HBL.out⟩
        · have i4 : ¬ (t.size : Int) > 1048576 := by omega
          by_cases h3 : m + t.size > 1048576
          · have i5 : (m : Int) + (t.size : Int) > 1048576 := by omega
            go_wp2
            go_ret
            exact .inl ⟨rfl, HBL.out⟩
          · have i5 : ¬ (m : Int) + (t.size : Int) > 1048576 := by omega
            go_wp2
            go_roundw
            case rel => exact ⟨m + t.size, k + 1, by go_num, by go_num, by omega, by omega, HSH.out.succ hlt (by rw [HTK.out]; omega), HBL.out⟩
            case measure => simp [intOf]; omega
      · by_cases h2 : s.size > 1048576
        · have i4 : (s.size : Int) > 1048576 := by omega
          go_wp2
          go_ret
          exact .inl ⟨rfl, HBL.out⟩
        · have i4 : ¬ (s.size : Int) > 1048576 := by omega
          by_cases h3 : m + s.size > 1048576
          · have i5 : (m : Int) + (s.size : Int) > 1048576 := by omega
            go_wp2
            go_ret
            exact .inl ⟨rfl, HBL.out⟩
          · have i5 : ¬ (m : Int) + (s.size : Int) > 1048576 := by omega
            go_wp2
            go_ret
            obtain rfl : k = T.length := by omega
            exact .inr ⟨rfl, HSH.out, HBL.out⟩
end Go.Proofs.Qxb6618711a
