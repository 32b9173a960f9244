/-
  THE CONTRACTS of the makers and readers of a customSettings.
-/
import Derived.Test.Qxb6618711aRows
import Derived.WalkKit
import Derived.WalkLawsBesides
import Derived.WalkSpells
import Derived.Deep.QuietTactic
import Derived.BigQuiet
namespace Go.Proofs.Qxb6618711a
open Go.RowKit

theorem hide {p : Prop} (h : p) : Hid p := h

/-- THE SETTINGS AT BLOCK B: what the fields hold that the law looks at; the block may be written. -/
structure St (w : World) (B : Nat) (b l c it sc es : Bool) (d cd cm tl p : Int) : Prop where
  free : ∀ o, w.frozen? ⟨B, o, none⟩ = false
  c12 : w.cell? ⟨B, 12, none⟩ = some (.int .i64 tl)
  c13 : w.cell? ⟨B, 13, none⟩ = some (.bool it)
  c14 : w.cell? ⟨B, 14, none⟩ = some (.int .u8 p)
  c15 : w.cell? ⟨B, 15, none⟩ = some (.bool b)
  c16 : w.cell? ⟨B, 16, none⟩ = some (.bool l)
  c17 : w.cell? ⟨B, 17, none⟩ = some (.bool c)
  c18 : w.cell? ⟨B, 18, none⟩ = some (.int .i64 d)
  c19 : w.cell? ⟨B, 19, none⟩ = some (.int .i64 cd)
  c20 : w.cell? ⟨B, 20, none⟩ = some (.int .i64 cm)
  c21 : w.cell? ⟨B, 21, none⟩ = some (.bool sc)
  c22 : w.cell? ⟨B, 22, none⟩ = some (.bool es)
  c30 : w.cell? ⟨B, 30, none⟩ = some (.slice none 0 0)
  c31 : w.cell? ⟨B, 31, none⟩ = some (.bool false)
  c32 : w.cell? ⟨B, 32, none⟩ = some (.bool false)
  c33 : w.cell? ⟨B, 33, none⟩ = some (.bool false)
  c35 : w.cell? ⟨B, 35, none⟩ = some (.int .i64 2)

theorem St.drewN {w : World} {B : Nat} {b l c it sc es : Bool} {d cd cm tl p : Int} (h : St w B b l c it sc es d cd cm tl p) (n : Nat) : St (w.drewN n) B b l c it sc es d cd cm tl p :=
  ⟨h.free, h.c12, h.c13, h.c14, h.c15, h.c16, h.c17, h.c18, h.c19, h.c20, h.c21, h.c22, h.c30, h.c31, h.c32, h.c33, h.c35⟩

theorem belowSet {B : Nat} {w w' : World} (h : Below B w w') (o : Nat) (v : Value) : Below B w (w'.setCell ⟨B, o, none⟩ v) := h.setCell (p := ⟨B, o, none⟩) (Nat.le_refl _) v
theorem cellNe (w : World) (B o o' : Nat) (v : Value) (h : o ≠ o') : (w.setCell ⟨B, o, none⟩ v).cell? ⟨B, o', none⟩ = w.cell? ⟨B, o', none⟩ :=
  World.cell?_setCell_other _ _ _ _ (by intro e; injection e with _ h2; exact h h2)
theorem St.s12 {w : World} {B : Nat} {b l c it sc es : Bool} {d cd cm tl p : Int} (h : St w B b l c it sc es d cd cm tl p) (tl' : Int) : St (w.setCell ⟨B, 12, none⟩ (.int .i64 tl')) B b l c it sc es d cd cm tl' p :=
  ⟨fun o => by rw [World.frozen?_setCell]; exact h.free o, World.cell?_setCell_same _ _ _ h.c12, (cellNe _ _ _ _ _ (by decide)).trans h.c13, (cellNe _ _ _ _ _ (by decide)).trans h.c14, (cellNe _ _ _ _ _ (by decide)).trans h.c15, (cellNe _ _ _ _ _ (by decide)).trans h.c16, (cellNe _ _ _ _ _ (by decide)).trans h.c17, (cellNe _ _ _ _ _ (by decide)).trans h.c18, (cellNe _ _ _ _ _ (by decide)).trans h.c19, (cellNe _ _ _ _ _ (by decide)).trans h.c20, (cellNe _ _ _ _ _ (by decide)).trans h.c21, (cellNe _ _ _ _ _ (by decide)).trans h.c22, (cellNe _ _ _ _ _ (by decide)).trans h.c30, (cellNe _ _ _ _ _ (by decide)).trans h.c31, (cellNe _ _ _ _ _ (by decide)).trans h.c32, (cellNe _ _ _ _ _ (by decide)).trans h.c33, (cellNe _ _ _ _ _ (by decide)).trans h.c35⟩
theorem St.s13 {w : World} {B : Nat} {b l c it sc es : Bool} {d cd cm tl p : Int} (h : St w B b l c it sc es d cd cm tl p) (it' : Bool) : St (w.setCell ⟨B, 13, none⟩ (.bool it')) B b l c it' sc es d cd cm tl p :=
  ⟨fun o => by rw [World.frozen?_setCell]; exact h.free o, (cellNe _ _ _ _ _ (by decide)).trans h.c12, World.cell?_setCell_same _ _ _ h.c13, (cellNe _ _ _ _ _ (by decide)).trans h.c14, (cellNe _ _ _ _ _ (by decide)).trans h.c15, (cellNe _ _ _ _ _ (by decide)).trans h.c16, (cellNe _ _ _ _ _ (by decide)).trans h.c17, (cellNe _ _ _ _ _ (by decide)).trans h.c18, (cellNe _ _ _ _ _ (by decide)).trans h.c19, (cellNe _ _ _ _ _ (by decide)).trans h.c20, (cellNe _ _ _ _ _ (by decide)).trans h.c21, (cellNe _ _ _ _ _ (by decide)).trans h.c22, (cellNe _ _ _ _ _ (by decide)).trans h.c30, (cellNe _ _ _ _ _ (by decide)).trans h.c31, (cellNe _ _ _ _ _ (by decide)).trans h.c32, (cellNe _ _ _ _ _ (by decide)).trans h.c33, (cellNe _ _ _ _ _ (by decide)).trans h.c35⟩
theorem St.s14 {w : World} {B : Nat} {b l c it sc es : Bool} {d cd cm tl p : Int} (h : St w B b l c it sc es d cd cm tl p) (p' : Int) : St (w.setCell ⟨B, 14, none⟩ (.int .u8 p')) B b l c it sc es d cd cm tl p' :=
  ⟨fun o => by rw [World.frozen?_setCell]; exact h.free o, (cellNe _ _ _ _ _ (by decide)).trans h.c12, (cellNe _ _ _ _ _ (by decide)).trans h.c13, World.cell?_setCell_same _ _ _ h.c14, (cellNe _ _ _ _ _ (by decide)).trans h.c15, (cellNe _ _ _ _ _ (by decide)).trans h.c16, (cellNe _ _ _ _ _ (by decide)).trans h.c17, (cellNe _ _ _ _ _ (by decide)).trans h.c18, (cellNe _ _ _ _ _ (by decide)).trans h.c19, (cellNe _ _ _ _ _ (by decide)).trans h.c20, (cellNe _ _ _ _ _ (by decide)).trans h.c21, (cellNe _ _ _ _ _ (by decide)).trans h.c22, (cellNe _ _ _ _ _ (by decide)).trans h.c30, (cellNe _ _ _ _ _ (by decide)).trans h.c31, (cellNe _ _ _ _ _ (by decide)).trans h.c32, (cellNe _ _ _ _ _ (by decide)).trans h.c33, (cellNe _ _ _ _ _ (by decide)).trans h.c35⟩
theorem St.s15 {w : World} {B : Nat} {b l c it sc es : Bool} {d cd cm tl p : Int} (h : St w B b l c it sc es d cd cm tl p) (b' : Bool) : St (w.setCell ⟨B, 15, none⟩ (.bool b')) B b' l c it sc es d cd cm tl p :=
  ⟨fun o => by rw [World.frozen?_setCell]; exact h.free o, (cellNe _ _ _ _ _ (by decide)).trans h.c12, (cellNe _ _ _ _ _ (by decide)).trans h.c13, (cellNe _ _ _ _ _ (by decide)).trans h.c14, World.cell?_setCell_same _ _ _ h.c15, (cellNe _ _ _ _ _ (by decide)).trans h.c16, (cellNe _ _ _ _ _ (by decide)).trans h.c17, (cellNe _ _ _ _ _ (by decide)).trans h.c18, (cellNe _ _ _ _ _ (by decide)).trans h.c19, (cellNe _ _ _ _ _ (by decide)).trans h.c20, (cellNe _ _ _ _ _ (by decide)).trans h.c21, (cellNe _ _ _ _ _ (by decide)).trans h.c22, (cellNe _ _ _ _ _ (by decide)).trans h.c30, (cellNe _ _ _ _ _ (by decide)).trans h.c31, (cellNe _ _ _ _ _ (by decide)).trans h.c32, (cellNe _ _ _ _ _ (by decide)).trans h.c33, (cellNe _ _ _ _ _ (by decide)).trans h.c35⟩
theorem St.s16 {w : World} {B : Nat} {b l c it sc es : Bool} {d cd cm tl p : Int} (h : St w B b l c it sc es d cd cm tl p) (l' : Bool) : St (w.setCell ⟨B, 16, none⟩ (.bool l')) B b l' c it sc es d cd cm tl p :=
  ⟨fun o => by rw [World.frozen?_setCell]; exact h.free o, (cellNe _ _ _ _ _ (by decide)).trans h.c12, (cellNe _ _ _ _ _ (by decide)).trans h.c13, (cellNe _ _ _ _ _ (by decide)).trans h.c14, (cellNe _ _ _ _ _ (by decide)).trans h.c15, World.cell?_setCell_same _ _ _ h.c16, (cellNe _ _ _ _ _ (by decide)).trans h.c17, (cellNe _ _ _ _ _ (by decide)).trans h.c18, (cellNe _ _ _ _ _ (by decide)).trans h.c19, (cellNe _ _ _ _ _ (by decide)).trans h.c20, (cellNe _ _ _ _ _ (by decide)).trans h.c21, (cellNe _ _ _ _ _ (by decide)).trans h.c22, (cellNe _ _ _ _ _ (by decide)).trans h.c30, (cellNe _ _ _ _ _ (by decide)).trans h.c31, (cellNe _ _ _ _ _ (by decide)).trans h.c32, (cellNe _ _ _ _ _ (by decide)).trans h.c33, (cellNe _ _ _ _ _ (by decide)).trans h.c35⟩
theorem St.s17 {w : World} {B : Nat} {b l c it sc es : Bool} {d cd cm tl p : Int} (h : St w B b l c it sc es d cd cm tl p) (c' : Bool) : St (w.setCell ⟨B, 17, none⟩ (.bool c')) B b l c' it sc es d cd cm tl p :=
  ⟨fun o => by rw [World.frozen?_setCell]; exact h.free o, (cellNe _ _ _ _ _ (by decide)).trans h.c12, (cellNe _ _ _ _ _ (by decide)).trans h.c13, (cellNe _ _ _ _ _ (by decide)).trans h.c14, (cellNe _ _ _ _ _ (by decide)).trans h.c15, (cellNe _ _ _ _ _ (by decide)).trans h.c16, World.cell?_setCell_same _ _ _ h.c17, (cellNe _ _ _ _ _ (by decide)).trans h.c18, (cellNe _ _ _ _ _ (by decide)).trans h.c19, (cellNe _ _ _ _ _ (by decide)).trans h.c20, (cellNe _ _ _ _ _ (by decide)).trans h.c21, (cellNe _ _ _ _ _ (by decide)).trans h.c22, (cellNe _ _ _ _ _ (by decide)).trans h.c30, (cellNe _ _ _ _ _ (by decide)).trans h.c31, (cellNe _ _ _ _ _ (by decide)).trans h.c32, (cellNe _ _ _ _ _ (by decide)).trans h.c33, (cellNe _ _ _ _ _ (by decide)).trans h.c35⟩
theorem St.s18 {w : World} {B : Nat} {b l c it sc es : Bool} {d cd cm tl p : Int} (h : St w B b l c it sc es d cd cm tl p) (d' : Int) : St (w.setCell ⟨B, 18, none⟩ (.int .i64 d')) B b l c it sc es d' cd cm tl p :=
  ⟨fun o => by rw [World.frozen?_setCell]; exact h.free o, (cellNe _ _ _ _ _ (by decide)).trans h.c12, (cellNe _ _ _ _ _ (by decide)).trans h.c13, (cellNe _ _ _ _ _ (by decide)).trans h.c14, (cellNe _ _ _ _ _ (by decide)).trans h.c15, (cellNe _ _ _ _ _ (by decide)).trans h.c16, (cellNe _ _ _ _ _ (by decide)).trans h.c17, World.cell?_setCell_same _ _ _ h.c18, (cellNe _ _ _ _ _ (by decide)).trans h.c19, (cellNe _ _ _ _ _ (by decide)).trans h.c20, (cellNe _ _ _ _ _ (by decide)).trans h.c21, (cellNe _ _ _ _ _ (by decide)).trans h.c22, (cellNe _ _ _ _ _ (by decide)).trans h.c30, (cellNe _ _ _ _ _ (by decide)).trans h.c31, (cellNe _ _ _ _ _ (by decide)).trans h.c32, (cellNe _ _ _ _ _ (by decide)).trans h.c33, (cellNe _ _ _ _ _ (by decide)).trans h.c35⟩
theorem St.s19 {w : World} {B : Nat} {b l c it sc es : Bool} {d cd cm tl p : Int} (h : St w B b l c it sc es d cd cm tl p) (cd' : Int) : St (w.setCell ⟨B, 19, none⟩ (.int .i64 cd')) B b l c it sc es d cd' cm tl p :=
  ⟨fun o => by rw [World.frozen?_setCell]; exact h.free o, (cellNe _ _ _ _ _ (by decide)).trans h.c12, (cellNe _ _ _ _ _ (by decide)).trans h.c13, (cellNe _ _ _ _ _ (by decide)).trans h.c14, (cellNe _ _ _ _ _ (by decide)).trans h.c15, (cellNe _ _ _ _ _ (by decide)).trans h.c16, (cellNe _ _ _ _ _ (by decide)).trans h.c17, (cellNe _ _ _ _ _ (by decide)).trans h.c18, World.cell?_setCell_same _ _ _ h.c19, (cellNe _ _ _ _ _ (by decide)).trans h.c20, (cellNe _ _ _ _ _ (by decide)).trans h.c21, (cellNe _ _ _ _ _ (by decide)).trans h.c22, (cellNe _ _ _ _ _ (by decide)).trans h.c30, (cellNe _ _ _ _ _ (by decide)).trans h.c31, (cellNe _ _ _ _ _ (by decide)).trans h.c32, (cellNe _ _ _ _ _ (by decide)).trans h.c33, (cellNe _ _ _ _ _ (by decide)).trans h.c35⟩
theorem St.s20 {w : World} {B : Nat} {b l c it sc es : Bool} {d cd cm tl p : Int} (h : St w B b l c it sc es d cd cm tl p) (cm' : Int) : St (w.setCell ⟨B, 20, none⟩ (.int .i64 cm')) B b l c it sc es d cd cm' tl p :=
  ⟨fun o => by rw [World.frozen?_setCell]; exact h.free o, (cellNe _ _ _ _ _ (by decide)).trans h.c12, (cellNe _ _ _ _ _ (by decide)).trans h.c13, (cellNe _ _ _ _ _ (by decide)).trans h.c14, (cellNe _ _ _ _ _ (by decide)).trans h.c15, (cellNe _ _ _ _ _ (by decide)).trans h.c16, (cellNe _ _ _ _ _ (by decide)).trans h.c17, (cellNe _ _ _ _ _ (by decide)).trans h.c18, (cellNe _ _ _ _ _ (by decide)).trans h.c19, World.cell?_setCell_same _ _ _ h.c20, (cellNe _ _ _ _ _ (by decide)).trans h.c21, (cellNe _ _ _ _ _ (by decide)).trans h.c22, (cellNe _ _ _ _ _ (by decide)).trans h.c30, (cellNe _ _ _ _ _ (by decide)).trans h.c31, (cellNe _ _ _ _ _ (by decide)).trans h.c32, (cellNe _ _ _ _ _ (by decide)).trans h.c33, (cellNe _ _ _ _ _ (by decide)).trans h.c35⟩
theorem St.s21 {w : World} {B : Nat} {b l c it sc es : Bool} {d cd cm tl p : Int} (h : St w B b l c it sc es d cd cm tl p) (sc' : Bool) : St (w.setCell ⟨B, 21, none⟩ (.bool sc')) B b l c it sc' es d cd cm tl p :=
  ⟨fun o => by rw [World.frozen?_setCell]; exact h.free o, (cellNe _ _ _ _ _ (by decide)).trans h.c12, (cellNe _ _ _ _ _ (by decide)).trans h.c13, (cellNe _ _ _ _ _ (by decide)).trans h.c14, (cellNe _ _ _ _ _ (by decide)).trans h.c15, (cellNe _ _ _ _ _ (by decide)).trans h.c16, (cellNe _ _ _ _ _ (by decide)).trans h.c17, (cellNe _ _ _ _ _ (by decide)).trans h.c18, (cellNe _ _ _ _ _ (by decide)).trans h.c19, (cellNe _ _ _ _ _ (by decide)).trans h.c20, World.cell?_setCell_same _ _ _ h.c21, (cellNe _ _ _ _ _ (by decide)).trans h.c22, (cellNe _ _ _ _ _ (by decide)).trans h.c30, (cellNe _ _ _ _ _ (by decide)).trans h.c31, (cellNe _ _ _ _ _ (by decide)).trans h.c32, (cellNe _ _ _ _ _ (by decide)).trans h.c33, (cellNe _ _ _ _ _ (by decide)).trans h.c35⟩
theorem St.s22 {w : World} {B : Nat} {b l c it sc es : Bool} {d cd cm tl p : Int} (h : St w B b l c it sc es d cd cm tl p) (es' : Bool) : St (w.setCell ⟨B, 22, none⟩ (.bool es')) B b l c it sc es' d cd cm tl p :=
  ⟨fun o => by rw [World.frozen?_setCell]; exact h.free o, (cellNe _ _ _ _ _ (by decide)).trans h.c12, (cellNe _ _ _ _ _ (by decide)).trans h.c13, (cellNe _ _ _ _ _ (by decide)).trans h.c14, (cellNe _ _ _ _ _ (by decide)).trans h.c15, (cellNe _ _ _ _ _ (by decide)).trans h.c16, (cellNe _ _ _ _ _ (by decide)).trans h.c17, (cellNe _ _ _ _ _ (by decide)).trans h.c18, (cellNe _ _ _ _ _ (by decide)).trans h.c19, (cellNe _ _ _ _ _ (by decide)).trans h.c20, (cellNe _ _ _ _ _ (by decide)).trans h.c21, World.cell?_setCell_same _ _ _ h.c22, (cellNe _ _ _ _ _ (by decide)).trans h.c30, (cellNe _ _ _ _ _ (by decide)).trans h.c31, (cellNe _ _ _ _ _ (by decide)).trans h.c32, (cellNe _ _ _ _ _ (by decide)).trans h.c33, (cellNe _ _ _ _ _ (by decide)).trans h.c35⟩

set_option maxRecDepth 100000 in
set_option maxHeartbeats 400000 in
theorem new_any (w : World) :
    Calls Try.prog 9 #[.slice none 0 0, .int .i64 2, .bool false, .bool false, .bool false] w fun e w' => e = .returned (.pointer (some ⟨w.heap.size, 0, none⟩)) ∧ St w' w.heap.size false false false false false false 0 0 0 0 0 ∧ Below w.heap.size w w' := by
  go_enter Try.func9, Try.ntmps9
  go_wp2
  go_ret
  refine ⟨rfl, ⟨fun o => World.frozen?_alloc_new .., ?_, ?_, ?_, ?_, ?_, ?_, ?_, ?_, ?_, ?_, ?_, ?_, ?_, ?_, ?_, ?_⟩, (Below.refl _ _).alloc (Nat.le_refl _) _⟩
  all_goals (rw [World.cell?_alloc_new]; rfl)

set_option maxRecDepth 100000 in
set_option maxHeartbeats 800000 in
theorem punct_any (w : World) (B : Nat) (b l c it sc es : Bool) (d cd cm tl p : Int) (h : St w B b l c it sc es d cd cm tl p) :
    Calls Try.prog 19 #[.pointer (some ⟨B, 0, none⟩)] w fun e w' => e = .returned (.tuple #[]) ∧ St w' B false false false it sc es d cd cm tl p ∧ Below B w w' := by
  have HS := hide h
  obtain ⟨f, c12, c13, c14, c15, c16, c17, c18, c19, c20, c21, c22, c30, c31, c32, c33, c35⟩ := h
  go_enter Try.func19, Try.ntmps19
  go_wp2
  go_end0
  go_wp2
  go_end0
  refine ⟨rfl, ?_, ?_⟩
  · exact ((HS.out.s15 false).s16 false).s17 false
  · exact belowSet (belowSet (belowSet (Below.refl B w) 15 _) 16 _) 17 _

set_option maxRecDepth 100000 in
set_option maxHeartbeats 1600000 in
theorem set_any (w : World) (B : Nat) (b l c it sc es : Bool) (d cd cm tl p : Int) (b' l' c' it' sc' es' : Bool) (d' cd' cm' tl' p' : Int) (h : St w B b l c it sc es d cd cm tl p) :
    Calls Try.prog 18 #[.pointer (some ⟨B, 0, none⟩), .bool b', .bool l', .bool c', .bool it', .bool sc', .bool es', .int .i64 d', .int .i64 cd', .int .i64 cm', .int .i64 tl', .int .u8 p'] w fun e w' => e = .returned (.tuple #[]) ∧ St w' B b' l' c' it' sc' es' d' cd' cm' tl' p' ∧ Below B w w' := by
  have HS := hide h
  obtain ⟨f, c12, c13, c14, c15, c16, c17, c18, c19, c20, c21, c22, c30, c31, c32, c33, c35⟩ := h
  go_enter Try.func18, Try.ntmps18
  go_wp2
  go_end0
  refine ⟨rfl, ?_, ?_⟩
  · exact ((((((((((HS.out.s15 b').s16 l').s17 c').s13 it').s21 sc').s22 es').s18 d').s19 cd').s20 cm').s12 tl').s14 p'
  · exact (belowSet (belowSet (belowSet (belowSet (belowSet (belowSet (belowSet (belowSet (belowSet (belowSet (belowSet (Below.refl B w) 15 _) 16 _) 17 _) 13 _) 21 _) 22 _) 18 _) 19 _) 20 _) 12 _) 14 _)

set_option maxRecDepth 100000 in
set_option maxHeartbeats 1600000 in
theorem lex_any (w : World) (B : Nat) (b l c it sc es : Bool) (d cd cm tl p : Int) (h : St w B b l c it sc es d cd cm tl p) :
    Calls Try.prog 20 #[.pointer (some ⟨B, 0, none⟩)] w fun e w' => e = .returned (.tuple #[.bool b, .bool l, .bool c, .bool it, .bool sc, .bool es, .int .i64 d, .int .i64 cd, .int .i64 cm, .int .i64 tl, .int .u8 p]) ∧ ∃ nq, w' = w.drewN nq := by
  obtain ⟨f, c12, c13, c14, c15, c16, c17, c18, c19, c20, c21, c22, c30, c31, c32, c33, c35⟩ := h
  go_enter Try.func20, Try.ntmps20
  go_wp2
  simp only [List.append_eq, List.cons_append, List.nil_append]
  go_quiet (fail)
  go_wp2
  exact bodyPost_ret (v := .tuple #[.bool b, .bool l, .bool c, .bool it, .bool sc, .bool es, .int .i64 d, .int .i64 cd, .int .i64 cm, .int .i64 tl, .int .u8 p]) (by simp [results, Try.results20, go_sem]) rfl ⟨rfl, _, rfl⟩

set_option maxRecDepth 100000 in
set_option maxHeartbeats 1600000 in
theorem word_any (w : World) (B : Nat) (b l c it sc es : Bool) (d cd cm tl p : Int) (h : St w B b l c it sc es d cd cm tl p) :
    Calls Try.prog 12 #[.pointer (some ⟨B, 0, none⟩)] w fun e w' => e = .returned (.tuple #[.int .i64 2, .int .i64 0, .bool false, .bool false, .bool false]) ∧ ∃ nq, w' = w.drewN nq := by
  obtain ⟨f, c12, c13, c14, c15, c16, c17, c18, c19, c20, c21, c22, c30, c31, c32, c33, c35⟩ := h
  go_enter Try.func12, Try.ntmps12
  go_wp2
  go_quiet (fail)
  go_wp2
  exact bodyPost_ret (v := .tuple #[.int .i64 2, .int .i64 0, .bool false, .bool false, .bool false]) (by simp [results, Try.results12, go_sem]) rfl ⟨rfl, _, rfl⟩
end Go.Proofs.Qxb6618711a
