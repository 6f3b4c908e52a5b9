/-
  Seat b1785a: keyOf where the key is new; zzs1785cfresh at a fresh state.
-/
import Derived.Test.YbulkajyeParts
import Derived.WalkSpells
namespace Go.Proofs.Ybulkajye
open Go.RowKit Go.ChangeMaps

/-- Block b is the map that holds l. -/
def MapIs (w : World) (b : Nat) (l : List (ByteArray × Value)) : Prop := w.heap[b]? = some (.map (ents l) l.length)

/-- A fresh state's cells. -/
def KS (k : ByteArray) (q : Int) : Array Value := #[.string k, .int .i64 0, .slice none 0 0, .int .i64 0, .int .i64 0, .int .i64 q, .slice none 0 0, .int .i64 0, .int .i64 0, .int .i64 q, .slice none 0 0, .int .i64 0, .int .i64 0, .int .i64 q, .slice none 0 0, .int .i64 0, .int .i64 0, .int .i64 q, .int .i64 (-1), .int .i64 (-1), .int .i64 (-1), .int .i64 (-1)]

/-- A new key is filed, at the operation. -/
theorem wpList_file {w : World} {ops : Array Oper} {rest : List Oper} {o : Oper} {a : Act} {Q : Exit → Act → World → Prop} (hgd : o.guard = none) (m x v : Operand) (hop : o.op = Op.mapUpdate 24 m x v)
    (b : Nat) (k : ByteArray) (val : Value) (l : List (ByteArray × Value)) (hm : a.eval m = .map (some b)) (hx : a.eval x = .string k) (hv : a.eval v = val) (hb : MapIs w b l) (hk : findV k l = none)
    (h : ∀ w', MapIs w' b (l ++ [(k, val)]) → w.grownBy w' (some b) → w'.heap.size = w.heap.size → wpList Yba.prog ops Q rest (a.put o.dst undef) w') :
    wpList Yba.prog ops Q (o :: rest) a w := by
  refine wpList_plain hgd fun K' hK' => ?_
  obtain ⟨w', hrun, r1, r2, r3⟩ := file_any k val hb hk
  unfold Oper.wp
  simp [execOp, hop, hm, hx, hv, hrun, Result.andThen]
  exact hK' _ _ (h w' r1 r2 r3)

set_option maxRecDepth 100000 in
set_option maxHeartbeats 1000000 in
theorem keyOf_new (bp b : Nat) (k : ByteArray) (q : Int) (l : List (ByteArray × Value)) (w : World) (hp : w.cell? ⟨bp, 62, none⟩ = some (.map (some b))) (hq : w.cell? ⟨bp, 1, none⟩ = some (.int .i64 q)) (hb : MapIs w b l) (hk : findV k l = none) :
    Calls Yba.prog 5 #[.pointer (some ⟨bp, 0, none⟩), .string k] w fun e w' => e = .returned (.pointer (some ⟨w.heap.size, 0, none⟩)) ∧ w'.heap[w.heap.size]? = some (.cells (KS k q) 95) ∧
      MapIs w' b (l ++ [(k, Value.pointer (some ⟨w.heap.size, 0, none⟩))]) ∧ w.grownBy w' (some b) ∧ w'.heap.size = w.heap.size + 1 := by
  have hl := run_look k hb
  rw [hk] at hl
  simp only [Option.getD_none] at hl
  have hbp : bp < w.heap.size := World.block_lt_of_cell? w _ hp
  have hbb : b < w.heap.size := (Array.getElem?_eq_some_iff.1 hb).1
  go_enter Yba.func5, Yba.ntmps5
  go_wp2
  refine wp_loop_rounds 5 ?_
  rw [rounds_succ]
  go_wp2
  go_region
  go_wp2
  rw [rounds_succ]
  go_wp2
  go_region
  go_wp2
  rw [rounds_succ]
  go_wp2
  go_region
  go_wp2
  rw [rounds_succ]
  go_wp2
  go_region
  go_wp2
  rw [rounds_succ]
  go_wp2_with (at_mapUpdate; refine wpList_file rfl _ _ _ rfl b k _ l rfl rfl rfl ?c1 hk ?_)
  case c1 =>
    unfold MapIs
    show (w.alloc _).heap[b]? = _
    rw [Below.heap_alloc _ _ _ hbb]
    exact hb
  intro w' h1 hg hs
  have R : Hid (w'.heap[w.heap.size]? = some (.cells (KS k q) 95) ∧ w.grownBy w' (some b) ∧ w'.heap.size = w.heap.size + 1) := by
    refine ⟨?_, ⟨hg.os, hg.tape, hg.output, by omega, fun j hj hne => ?_⟩, hs⟩
    · refine (hg.block w.heap.size (by simp) (by simp; omega)).trans ?_
      exact heap_alloc_new _ _
    · exact (hg.block j (by simp; omega) hne).trans (Below.heap_alloc _ _ _ hj)
  clear hg hs hb hl
  go_wp2
  go_ret
  exact ⟨rfl, R.out.1, h1, R.out.2⟩

theorem neq46 (w : World) (a : Option Addr) (n c n' c' : Nat) : (binOp .neq 46 (.slice a n c) (.slice none n' c')).run Yba.prog w = .ok (.bool (!a.isNone)) w := run_neq_slice_nil_any w _ _ a n c n' c' Yba.underlying46

theorem ks_cells {w : World} {g : Nat} {k : ByteArray} {q : Int} (h : w.heap[g]? = some (.cells (KS k q) 95)) : ∀ i v, (KS k q)[i]? = some v → w.cell? ⟨g, i, none⟩ = some v := by
  intro i v hv
  simp [World.cell?, h, hv]

set_option maxRecDepth 100000 in
set_option maxHeartbeats 1000000 in
theorem fresh_any (g : Nat) (k : ByteArray) (q : Int) (w : World) (h : w.heap[g]? = some (.cells (KS k q) 95)) :
    Calls Yba.prog 6 #[.pointer (some ⟨g, 0, none⟩), .string k, .int .i64 q] w fun e w' => e = .returned (.bool true) ∧ Below w.heap.size w w' := by
  have hg : g < w.heap.size := (Array.getElem?_eq_some_iff.1 h).1
  have c := ks_cells h
  have c0 : w.cell? ⟨g, 0, none⟩ = some (.string k) := c 0 _ rfl
  have c1 : w.cell? ⟨g, 1, none⟩ = some (.int .i64 0) := c 1 _ rfl
  have c2 : w.cell? ⟨g, 2, none⟩ = some (.slice none 0 0) := c 2 _ rfl
  have c3 : w.cell? ⟨g, 3, none⟩ = some (.int .i64 0) := c 3 _ rfl
  have c4 : w.cell? ⟨g, 4, none⟩ = some (.int .i64 0) := c 4 _ rfl
  have c5 : w.cell? ⟨g, 5, none⟩ = some (.int .i64 q) := c 5 _ rfl
  have c6 : w.cell? ⟨g, 6, none⟩ = some (.slice none 0 0) := c 6 _ rfl
  have c7 : w.cell? ⟨g, 7, none⟩ = some (.int .i64 0) := c 7 _ rfl
  have c8 : w.cell? ⟨g, 8, none⟩ = some (.int .i64 0) := c 8 _ rfl
  have c9 : w.cell? ⟨g, 9, none⟩ = some (.int .i64 q) := c 9 _ rfl
  have c10 : w.cell? ⟨g, 10, none⟩ = some (.slice none 0 0) := c 10 _ rfl
  have c11 : w.cell? ⟨g, 11, none⟩ = some (.int .i64 0) := c 11 _ rfl
  have c12 : w.cell? ⟨g, 12, none⟩ = some (.int .i64 0) := c 12 _ rfl
  have c13 : w.cell? ⟨g, 13, none⟩ = some (.int .i64 q) := c 13 _ rfl
  have c14 : w.cell? ⟨g, 14, none⟩ = some (.slice none 0 0) := c 14 _ rfl
  have c15 : w.cell? ⟨g, 15, none⟩ = some (.int .i64 0) := c 15 _ rfl
  have c16 : w.cell? ⟨g, 16, none⟩ = some (.int .i64 0) := c 16 _ rfl
  have c17 : w.cell? ⟨g, 17, none⟩ = some (.int .i64 q) := c 17 _ rfl
  have c18 : w.cell? ⟨g, 18, none⟩ = some (.int .i64 (-1)) := c 18 _ rfl
  have c19 : w.cell? ⟨g, 19, none⟩ = some (.int .i64 (-1)) := c 19 _ rfl
  have c20 : w.cell? ⟨g, 20, none⟩ = some (.int .i64 (-1)) := c 20 _ rfl
  have c21 : w.cell? ⟨g, 21, none⟩ = some (.int .i64 (-1)) := c 21 _ rfl
  have hn := neq46
  have hg1 : g < w.heap.size + 1 := by omega
  have hg2 : g < w.heap.size + 1 + 1 := by omega
  have hg3 : g < w.heap.size + 1 + 1 + 1 := by omega
  clear c h
  go_enter Yba.func6, Yba.ntmps6
  go_wp2
  refine wp_loop_rounds 5 ?_
  rw [rounds_succ]
  go_wp2
  rw [rounds_succ]
  go_wp2
  rw [rounds_succ]
  go_wp2
  rw [rounds_succ]
  go_wp2
  rw [rounds_succ]
  go_wp2
  go_ret
  exact ⟨rfl, ((((Below.refl _ _).alloc (Nat.le_refl _) _).alloc (by simp) _).alloc (by simp; omega) _).alloc (by simp; omega) _⟩
end Go.Proofs.Ybulkajye
