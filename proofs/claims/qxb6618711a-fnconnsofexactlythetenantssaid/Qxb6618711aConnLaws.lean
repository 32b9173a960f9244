/-
  RAW LAWS on the two kinds of maps that the router holds: by strings to maps, and by pointers to nothing.
-/
import Derived.Test.Qxb6618711aRows
import Derived.WalkKit
import Derived.WalkLawsBesides
import Derived.WalkSpells
import Derived.LaidEqlPtr
import Derived.Maps.RangeWalk
import Derived.Maps.OwnSet
namespace Go.Proofs.Qxb6618711a
open Go.RowKit
open Go.ChangeMaps (setBlock)

/-- A tenant's group: the name, the inner map's block, the connections (block and tag). -/
structure Grp where
  s : ByteArray
  c : Nat
  l : List (Nat × Nat)

def ents : Nat → List Grp → List MapEntry
  | _, [] => []
  | i, g :: r => ⟨.string g.s, .map (some g.c), i⟩ :: ents (i + 1) r
def conns : Nat → List (Nat × Nat) → List MapEntry
  | _, [] => []
  | i, p :: r => ⟨.pointer (some ⟨p.1, 0, none⟩), .agg #[], i⟩ :: conns (i + 1) r

theorem ents_append : ∀ (G : List Grp) (i : Nat) (g : Grp), ents i (G ++ [g]) = ents i G ++ [⟨.string g.s, .map (some g.c), i + G.length⟩]
  | [], i, g => rfl
  | h :: G, i, g => by
    simp only [List.cons_append, ents, List.length_cons]
    rw [ents_append G (i + 1) g, show i + 1 + G.length = i + (G.length + 1) by omega]
theorem conns_append : ∀ (l : List (Nat × Nat)) (i : Nat) (p : Nat × Nat), conns i (l ++ [p]) = conns i l ++ [⟨.pointer (some ⟨p.1, 0, none⟩), .agg #[], i + l.length⟩]
  | [], i, p => rfl
  | h :: l, i, p => by
    simp only [List.cons_append, conns, List.length_cons]
    rw [conns_append l (i + 1) p, show i + 1 + l.length = i + (l.length + 1) by omega]
theorem conns_length : ∀ (l : List (Nat × Nat)) (i : Nat), (conns i l).length = l.length
  | [], _ => rfl
  | p :: l, i => by simp only [conns, List.length_cons, conns_length l (i + 1)]
theorem ents_length : ∀ (l : List Grp) (i : Nat), (ents i l).length = l.length
  | [], _ => rfl
  | p :: l, i => by simp only [ents, List.length_cons, ents_length l (i + 1)]

theorem beq_no {a b : ByteArray} (h : ¬ a = b) : (a == b) = false := by
  cases e : (a == b) with
  | false => rfl
  | true => exact absurd ((MapKept.bytes_beq a b).1 e) h
theorem find_no (s : ByteArray) : ∀ (G : List Grp) (i j : Nat), (∀ g ∈ G, ¬ g.s = s) → Instr.findNow .string (.string s) (ents i G) j = some none
  | [], _, _, _ => rfl
  | g :: G, i, j, h => by
    have hne : (s == g.s) = false := beq_no (fun e => h g (by simp) e.symm)
    simp only [ents, Instr.findNow, Instr.sameNow, hne]
    exact find_no s G (i + 1) (j + 1) (fun g' hg' => h g' (by simp [hg']))
theorem find_yes (s : ByteArray) (g : Grp) (G2 : List Grp) (hg : g.s = s) : ∀ (G1 : List Grp) (i j : Nat), (∀ g ∈ G1, ¬ g.s = s) → Instr.findNow .string (.string s) (ents i (G1 ++ g :: G2)) j = some (some (j + G1.length, .map (some g.c)))
  | [], i, j, _ => by
    have : (s == g.s) = true := (MapKept.bytes_beq s g.s).2 hg.symm
    simp only [List.nil_append, ents, Instr.findNow, Instr.sameNow, this]
    rfl
  | g' :: G1, i, j, h => by
    have hne : (s == g'.s) = false := beq_no (fun e => h g' (by simp) e.symm)
    simp only [List.cons_append, ents, Instr.findNow, Instr.sameNow, hne]
    rw [find_yes s g G2 hg G1 (i + 1) (j + 1) (fun g' hg' => h g' (by simp [hg']))]
    simp only [List.length_cons]
    rw [show j + 1 + G1.length = j + (G1.length + 1) by omega]

theorem zero101 (w : World) : (zeroValue 101).run Try.prog w = .ok (.map none) w := by kernel_rfl
theorem check9 (b : Bool) (s : ByteArray) (w : World) : (Instr.checkKey b 10000 9 (.string s)).run Try.prog w = .ok () w := by
  rw [show (10000 : Nat) = 9999 + 1 from rfl, Instr.checkKey]
  simp [run_underlying Try.underlying9]
theorem check65 (b : Bool) (a : Option Addr) (w : World) : (Instr.checkKey b 10000 65 (.pointer a)).run Try.prog w = .ok () w := by
  rw [show (10000 : Nat) = 9999 + 1 from rfl, Instr.checkKey]
  simp [run_underlying Try.underlying65]

theorem look_no (w : World) (M clock : Nat) (G : List Grp) (s : ByteArray) (hM : w.heap[M]? = some (.map (ents 0 G).toArray clock)) (h : ∀ g ∈ G, ¬ g.s = s) :
    (Instr.lookup 112 (.map (some M)) (.string s) false).run Try.prog w = .ok (.map none) w := by
  simp [Instr.lookup, run_underlying Try.underlying112, getObj, Sem.run, hM, check9, Instr.findKey, run_underlying Try.underlying9, find_no s G 0 0 h, Result.andThen]
theorem look_yes (w : World) (M clock : Nat) (G1 G2 : List Grp) (g : Grp) (s : ByteArray) (hM : w.heap[M]? = some (.map (ents 0 (G1 ++ g :: G2)).toArray clock)) (hg : g.s = s) (h : ∀ g ∈ G1, ¬ g.s = s) :
    (Instr.lookup 112 (.map (some M)) (.string s) false).run Try.prog w = .ok (.map (some g.c)) w := by
  simp [Instr.lookup, run_underlying Try.underlying112, getObj, Sem.run, hM, check9, Instr.findKey, run_underlying Try.underlying9, find_yes s g G2 hg G1 0 0 h, Result.andThen]
/-- A new name is filed. -/
theorem put_new (w : World) (M clock : Nat) (G : List Grp) (s : ByteArray) (c : Nat) (hM : w.heap[M]? = some (.map (ents 0 G).toArray clock)) (h : ∀ g ∈ G, ¬ g.s = s) :
    (Instr.mapUpdate 112 (.map (some M)) (.string s) (.map (some c))).run Try.prog w = .ok () (setBlock w M (.map ((ents 0 G).toArray.push ⟨.string s, .map (some c), clock⟩) (clock + 1))) := by
  simp [Instr.mapUpdate, run_underlying Try.underlying112, getObj, Sem.run, hM, check9, Instr.findKey, run_underlying Try.underlying9, find_no s G 0 0 h, Result.andThen, setObj, setBlock]

theorem size100 : ¬ Try.t100.size = 0 := of_decide_eq_true (by kernel_rfl)
theorem equal_other (w : World) (b b' : Nat) (hne : b ≠ b') {ca cb : Array Value} (ha : w.heap[b]? = some (.cells ca 100 (0, 0))) (hb : w.heap[b']? = some (.cells cb 100 (0, 0))) :
    (Op.equal 65 (.pointer (some ⟨b, 0, none⟩)) (.pointer (some ⟨b', 0, none⟩))).run Try.prog w = .ok false w := by
  unfold Op.equal Op.maxDepth
  rw [show (10000 : Nat) = 9999 + 1 from rfl, Op.equalIn]
  simp [run_underlying Try.underlying65, sizeOf, size100, run_sameAddr_other w (a := ⟨b, 0, none⟩) (b := ⟨b', 0, none⟩) (by intro e; injection e with h1; exact hne h1) ha hb]
theorem ask_no (w : World) (b : Nat) {ca : Array Value} (ha : w.heap[b]? = some (.cells ca 100 (0, 0))) : ∀ (l : List (Nat × Nat)) (i j : Nat), (∀ p ∈ l, b ≠ p.1 ∧ ∃ cb, w.heap[p.1]? = some (.cells cb 100 (0, 0))) →
    (Instr.findAsking 65 (.pointer (some ⟨b, 0, none⟩)) (conns i l) j).run Try.prog w = .ok none w
  | [], _, _, _ => rfl
  | p :: l, i, j, h => by
    obtain ⟨hne, cb, hb⟩ := h p (by simp)
    simp only [conns, Instr.findAsking, Sem.run_bind, equal_other w b p.1 hne ha hb, Result.andThen]
    exact ask_no w b ha l (i + 1) (j + 1) (fun q hq => h q (by simp [hq]))
theorem findKey_no (w : World) (b : Nat) {ca : Array Value} (ha : w.heap[b]? = some (.cells ca 100 (0, 0))) (l : List (Nat × Nat)) (h : ∀ p ∈ l, b ≠ p.1 ∧ ∃ cb, w.heap[p.1]? = some (.cells cb 100 (0, 0))) :
    (Instr.findKey 65 (.pointer (some ⟨b, 0, none⟩)) (conns 0 l)).run Try.prog w = .ok none w := by
  cases l with
  | nil => simp [Instr.findKey, run_underlying Try.underlying65, conns, Instr.findNow, Result.andThen]
  | cons p l =>
    have := ask_no w b ha (p :: l) 0 0 h
    have e : Instr.findNow (.pointer 100) (.pointer (some ⟨b, 0, none⟩)) (conns 0 (p :: l)) 0 = none := by
      simp only [conns, Instr.findNow, Instr.sameNow]
    simp only [Instr.findKey, Sem.run_bind, run_underlying Try.underlying65, Result.andThen, e]
    exact this
/-- A new connection is filed. -/
theorem put_conn (w : World) (c clock b : Nat) (l : List (Nat × Nat)) {ca : Array Value} (hc : w.heap[c]? = some (.map (conns 0 l).toArray clock)) (ha : w.heap[b]? = some (.cells ca 100 (0, 0))) (h : ∀ p ∈ l, b ≠ p.1 ∧ ∃ cb, w.heap[p.1]? = some (.cells cb 100 (0, 0))) :
    (Instr.mapUpdate 101 (.map (some c)) (.pointer (some ⟨b, 0, none⟩)) (.agg #[])).run Try.prog w = .ok () (setBlock w c (.map ((conns 0 l).toArray.push ⟨.pointer (some ⟨b, 0, none⟩), .agg #[], clock⟩) (clock + 1))) := by
  simp [Instr.mapUpdate, run_underlying Try.underlying101, getObj, Sem.run, hc, check65, findKey_no w b ha l h, Result.andThen, setObj, setBlock]
theorem range_conn (w : World) (c clock : Nat) (es : Array MapEntry) (hc : w.heap[c]? = some (.map es clock)) :
    (Instr.range 101 (.map (some c))).run Try.prog w = .ok (.pointer (some ⟨w.heap.size, 0, none⟩)) (w.alloc (.mapIter (some c) clock #[] clock)) := by
  simp [Instr.range, run_underlying Try.underlying101, getObj, Sem.run, hc, Result.andThen, newObj]

/-! ### The laws as the walk takes them -/
section
variable {P : Program} (w : World) {ops : Array Oper} {rest : List Oper} {o : Oper} {a : Act} {Q : Exit → Act → World → Prop}
theorem wpList_lookup_run (hg : o.guard = none) (x i : Operand) (t : TypeId) (hop : o.op = Op.lookup t x i false) (xv iv v : Value) (hx : a.eval x = xv) (hi : a.eval i = iv) (hrun : (Instr.lookup t xv iv false).run P w = .ok v w)
    (h : wpList P ops Q rest (a.put o.dst v) w) : wpList P ops Q (o :: rest) a w := by
  refine wpList_plain hg fun K' hK' => ?_
  unfold Oper.wp
  simp [execOp, hop, hx, hi, hrun, Result.andThen]
  exact hK' _ _ h
theorem wpList_put_run (hg : o.guard = none) (m x v : Operand) (t : TypeId) (hop : o.op = Op.mapUpdate t m x v) (mv xv vv : Value) (hm : a.eval m = mv) (hx : a.eval x = xv) (hv : a.eval v = vv) (w' : World) (hrun : (Instr.mapUpdate t mv xv vv).run P w = .ok () w')
    (h : wpList P ops Q rest (a.put o.dst undef) w') : wpList P ops Q (o :: rest) a w := by
  refine wpList_plain hg fun K' hK' => ?_
  unfold Oper.wp
  simp [execOp, hop, hm, hx, hv, hrun, Result.andThen]
  exact hK' _ _ h
theorem wpList_range_run (hg : o.guard = none) (m : Operand) (t : TypeId) (hop : o.op = Op.range t m) (mv v : Value) (hm : a.eval m = mv) (w' : World) (hrun : (Instr.range t mv).run P w = .ok v w')
    (h : wpList P ops Q rest (a.put o.dst v) w') : wpList P ops Q (o :: rest) a w := by
  refine wpList_plain hg fun K' hK' => ?_
  unfold Oper.wp
  simp [execOp, hop, hm, hrun, Result.andThen]
  exact hK' _ _ h
theorem wpList_len_run (hg : o.guard = none) (m : Operand) (t : TypeId) (hop : o.op = Op.call { callee := Callee.builtin Builtin.len, args := #[m], argTypes := #[t] }) (mv v : Value) (hm : a.eval m = mv) (hrun : (Builtin.len_ #[t] o.type #[mv]).run P w = .ok v w)
    (h : wpList P ops Q rest (a.put o.dst v) w) : wpList P ops Q (o :: rest) a w := by
  refine wpList_plain hg fun K' hK' => ?_
  unfold Oper.wp
  simp [execOp, hop, resolve, invoke, builtin, hm, hrun, Result.andThen]
  exact hK' _ _ h
end
theorem len_conn (w : World) (ty : TypeId) (c clock : Nat) (es : Array MapEntry) (hc : w.heap[c]? = some (.map es clock)) : (Builtin.len_ #[101] ty #[.map (some c)]).run Try.prog w = .ok (.int .i64 (es.size : Int)) w := by
  simp [Builtin.len_, run_underlying Try.underlying101, MapKept.run_getObj_map hc, goInt, Result.andThen]
theorem len_none (w : World) (ty : TypeId) : (Builtin.len_ #[101] ty #[.map none]).run Try.prog w = .ok (.int .i64 0) w := by
  simp [Builtin.len_, run_underlying Try.underlying101, goInt]
end Go.Proofs.Qxb6618711a
