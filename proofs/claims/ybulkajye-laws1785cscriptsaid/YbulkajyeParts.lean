/-
  Seat b1785a: the pool's map, told by its entries: a list of keys (strings) and values in the order in which they were filed. Look-up, store of a new key and len, as equations on the operation's run.
-/
import Derived.Test.YbulkajyeProg
import Derived.WalkKit
import Derived.MapKept
import Derived.ChangeMaps5
import Derived.Maps.OwnSet
import Derived.Deep.OwnRows
import Derived.Deep.Draws
import Derived.LaidEqlPtr
namespace Go.Proofs.Ybulkajye
open Go.RowKit Go.ChangeMaps

theorem bbeq_iff (a b : ByteArray) : (a == b) = true ↔ a = b := by
  show (a.data == b.data) = true ↔ a = b
  rw [beq_iff_eq]
  constructor
  · intro h; cases a; cases b; simp at h; subst h; rfl
  · intro h; rw [h]
theorem bbeq_self (a : ByteArray) : (a == a) = true := (bbeq_iff a a).2 rfl

/-- The entries, each with its stamp. -/
def entsFrom : Nat → List (ByteArray × Value) → List MapEntry
  | _, [] => []
  | c, x :: l => { key := .string x.1, val := x.2, born := c } :: entsFrom (c + 1) l
def ents (l : List (ByteArray × Value)) : Array MapEntry := (entsFrom 0 l).toArray

theorem entsFrom_length (l : List (ByteArray × Value)) : ∀ c, (entsFrom c l).length = l.length := by
  induction l with
  | nil => intro c; rfl
  | cons x l ih => intro c; simp [entsFrom, ih]
theorem entsFrom_append (l : List (ByteArray × Value)) (x : ByteArray × Value) : ∀ c, entsFrom c (l ++ [x]) = entsFrom c l ++ [{ key := .string x.1, val := x.2, born := c + l.length }] := by
  induction l with
  | nil => intro c; rfl
  | cons y l ih => intro c; simp [entsFrom, ih]; omega
theorem ents_push (l : List (ByteArray × Value)) (x : ByteArray × Value) : (ents l).push { key := .string x.1, val := x.2, born := l.length } = ents (l ++ [x]) := by
  unfold ents
  rw [entsFrom_append]
  simp

/-- What the map holds at a key: the first entry's value. -/
def findV (k : ByteArray) : List (ByteArray × Value) → Option Value
  | [] => none
  | x :: l => if k == x.1 then some x.2 else findV k l

theorem findNow_ents (k : ByteArray) (l : List (ByteArray × Value)) : ∀ c i, ∃ j, Instr.findNow .string (.string k) (entsFrom c l) i = some ((findV k l).map fun v => (j, v)) := by
  induction l with
  | nil => intro c i; exact ⟨0, rfl⟩
  | cons x l ih =>
    intro c i
    obtain ⟨j, hj⟩ := ih (c + 1) (i + 1)
    cases hk : k == x.1
    · exact ⟨j, by simp [entsFrom, Instr.findNow, Instr.sameNow, hk, findV, hj]⟩
    · exact ⟨i, by simp [entsFrom, Instr.findNow, Instr.sameNow, hk, findV]⟩

section
variable {w : World} {b : Nat} {l : List (ByteArray × Value)}

theorem check9 (e : Bool) (k : ByteArray) (w : World) : (Instr.checkKey e 10000 9 (.string k)).run Yba.prog w = .ok () w := by
  rw [show (10000 : Nat) = 9999 + 1 from rfl, Instr.checkKey]
  simp [run_underlying Yba.underlying9, Result.andThen]

theorem run_findKey (k : ByteArray) : ∃ j, (Instr.findKey 9 (.string k) (ents l).toList).run Yba.prog w = .ok ((findV k l).map fun v => (j, v)) w := by
  obtain ⟨j, hj⟩ := findNow_ents k l 0 0
  refine ⟨j, ?_⟩
  unfold Instr.findKey
  simp [run_underlying Yba.underlying9, ents, hj, Result.andThen]

theorem run_look (k : ByteArray) (hb : w.heap[b]? = some (.map (ents l) l.length)) :
    (Instr.lookup 24 (.map (some b)) (.string k) false).run Yba.prog w = .ok ((findV k l).getD (.pointer none)) w := by
  obtain ⟨j, hj⟩ := run_findKey (w := w) (l := l) k
  cases h : findV k l with
  | none =>
    rw [h] at hj
    simp [Instr.lookup, run_underlying Yba.underlying24, MapKept.run_getObj_map hb, check9, hj, Result.andThen]
  | some v =>
    rw [h] at hj
    simp [Instr.lookup, run_underlying Yba.underlying24, MapKept.run_getObj_map hb, check9, hj, Result.andThen]

theorem run_file (k : ByteArray) (v : Value) (hb : w.heap[b]? = some (.map (ents l) l.length)) (hk : findV k l = none) :
    (Instr.mapUpdate 24 (.map (some b)) (.string k) v).run Yba.prog w = .ok () (setBlock w b (.map (ents (l ++ [(k, v)])) (l ++ [(k, v)]).length)) := by
  obtain ⟨j, hj⟩ := run_findKey (w := w) (l := l) k
  rw [hk] at hj
  simp [Instr.mapUpdate, run_underlying Yba.underlying24, MapKept.run_getObj_map hb, MapKept.run_setObj_map _ hb, check9, hj, Result.andThen, ← ents_push, setBlock]

theorem run_lenk (hb : w.heap[b]? = some (.map (ents l) l.length)) : (Builtin.len_ #[24] 3 #[.map (some b)]).run Yba.prog w = .ok (.int .i64 (l.length : Nat)) w := by
  have e : (ents l).size = l.length := by simp [ents, entsFrom_length]
  simp [Builtin.len_, run_underlying Yba.underlying24, MapKept.run_getObj_map hb, Result.andThen, e, goInt]

/-- A new key is filed: some world in which the map has one entry more; nothing else has turned. -/
theorem file_any (k : ByteArray) (v : Value) (hb : w.heap[b]? = some (.map (ents l) l.length)) (hk : findV k l = none) :
    ∃ w', (Instr.mapUpdate 24 (.map (some b)) (.string k) v).run Yba.prog w = .ok () w' ∧ w'.heap[b]? = some (.map (ents (l ++ [(k, v)])) (l ++ [(k, v)]).length) ∧ w.grownBy w' (some b) ∧ w'.heap.size = w.heap.size :=
  ⟨_, run_file k v hb hk, heap_setBlock_same hb _, ⟨rfl, rfl, rfl, by simp [setBlock], fun i _ hi => heap_setBlock_other hb _ (fun e => hi (by rw [e]))⟩, by simp [setBlock]⟩
end

/-! ### The pool's struct: a hundred and fifty cells, of which two are looked at: queueSize (1) and keys (62) -/
theorem build_pool (q : Int) (b : Nat) : ∃ C : Array Value, C[1]? = some (.int .i64 q) ∧ C[62]? = some (.map (some b)) ∧
    ∀ w, (Instr.build 88 #[(1, .int .i64 q), (14, .map (some b))]).run Yba.prog w = .ok (.agg C) w :=
  ⟨(((Yba.t88.zero.getD undef).cells).setIfInBounds 1 (.int .i64 q)).setIfInBounds 62 (.map (some b)), by kernel_rfl, by kernel_rfl, fun w => by kernel_rfl⟩

theorem wpList_build_pool {w : World} {ops : Array Oper} {rest : List Oper} {o : Oper} {a : Act} {Q : Exit → Act → World → Prop} (hgd : o.guard = none) (x y : Operand)
    (ho : o.op = .build 88 #[(1, x), (14, y)]) (q : Int) (b : Nat) (hx : a.eval x = .int .i64 q) (hy : a.eval y = .map (some b)) (C : Array Value)
    (hC : ∀ w, (Instr.build 88 #[(1, .int .i64 q), (14, .map (some b))]).run Yba.prog w = .ok (.agg C) w)
    (h : wpList Yba.prog ops Q rest (a.put o.dst (.agg C)) w) : wpList Yba.prog ops Q (o :: rest) a w := by
  refine wpList_plain hgd fun K' hK' => ?_
  unfold Oper.wp
  simp [execOp, ho, hx, hy, hC, Result.andThen]
  exact hK' _ _ h


/-! ### One pointer against itself -/
theorem Yba.info95 : (Yba.prog.info? 95).isSome = true := by kernel_rfl
theorem neq_same (a : Addr) (w : World) : (binOp .neq 89 (.pointer (some a)) (.pointer (some a))).run Yba.prog w = .ok (.bool false) w := by
  obtain ⟨j, hte⟩ := Option.isSome_iff_exists.1 Yba.info95
  have h : ∀ d : Nat, (Op.equalIn (d + 1) 89 (.pointer (some a)) (.pointer (some a))).run Yba.prog w = .ok true w := fun d => by
    simp [Op.equalIn, run_underlying Yba.underlying89, sizeOf, typeInfo, hte, run_sameAddr_same]
  simp only [binOp]
  simp [Op.equal, Op.maxDepth, h 9999]

/-! ### keyOf where the key is filed -/
/-- keyOf at a key that is filed: its state, nothing turned. -/
theorem keyOf_found (bp b : Nat) (k : ByteArray) (l : List (ByteArray × Value)) (x : Addr) (w : World) (hp : w.cell? ⟨bp, 62, none⟩ = some (.map (some b))) (hb : w.heap[b]? = some (.map (ents l) l.length)) (hk : findV k l = some (.pointer (some x))) :
    Calls Yba.prog 5 #[.pointer (some ⟨bp, 0, none⟩), .string k] w fun e w' => e = .returned (.pointer (some x)) ∧ w' = w := by
  have hl := run_look k hb
  rw [hk] at hl
  simp only [Option.getD_some] at hl
  clear hb
  go_enter Yba.func5, Yba.ntmps5
  go_wp2
  go_ret
  exact ⟨rfl, rfl⟩

end Go.Proofs.Ybulkajye
