/-
  Seat b1786a: the queue's own functions at the cells that they touch: Push (PushFront), Pop (Remove); each leaves a world that is written out.
-/
import Derived.Test.YbulkajysParts
import Derived.LaidEqlPtr
namespace Go.Proofs.Ybulkajys
open Go.RowKit
set_option linter.unusedVariables false

theorem Yba.info43 : (Yba.prog.info? 43).map (·.size) = some 3 := by kernel_rfl
theorem eql_same (a : Addr) (w : World) : (binOp .eql 23 (.pointer (some a)) (.pointer (some a))).run Yba.prog w = .ok (.bool true) w := by
  obtain ⟨j, hj, _⟩ := Option.map_eq_some_iff.1 Yba.info43
  exact run_eql_ptr_same w a Yba.underlying23 hj
theorem neq_same (a : Addr) (w : World) : (binOp .neq 23 (.pointer (some a)) (.pointer (some a))).run Yba.prog w = .ok (.bool false) w := by
  obtain ⟨j, hte, _⟩ := Option.map_eq_some_iff.1 Yba.info43
  have h : ∀ d : Nat, (Op.equalIn (d + 1) 23 (.pointer (some a)) (.pointer (some a))).run Yba.prog w = .ok true w := fun d => by
    simp [Op.equalIn, run_underlying Yba.underlying23, sizeOf, typeInfo, hte, run_sameAddr_same]
  simp only [binOp]
  simp [Op.equal, Op.maxDepth, h 9999]

/-- Block b is a row of cells, none of them shared with a string. -/
def Row (w : World) (b : Nat) : Prop := ∃ c t, w.heap[b]? = some (.cells c t (0, 0))
theorem Row.set {w : World} {b : Nat} (h : Row w b) (a : Addr) (v : Value) : Row (w.setCell a v) b := by
  obtain ⟨c, t, h⟩ := h
  by_cases e : b = a.block
  · subst e
    simp [Row, World.setCell, Array.getElem?_modify, h]
  · exact ⟨c, t, (Below.heap_setCell _ _ _ _ e).trans h⟩
theorem eql_other {a b : Addr} {w : World} (hne : a ≠ b) (ha : Row w a.block) (hb : Row w b.block) : (binOp .eql 23 (.pointer (some a)) (.pointer (some b))).run Yba.prog w = .ok (.bool false) w := by
  obtain ⟨j, hj, hs⟩ := Option.map_eq_some_iff.1 Yba.info43
  obtain ⟨ca, ta, ha⟩ := ha
  obtain ⟨cb, tb, hb⟩ := hb
  exact run_eql_ptr_other w Yba.underlying23 hj (by omega) hne ha hb

/-- 'x == y' at two pointers to different blocks, at the operation. -/
theorem wpList_eql_other {w : World} {ops : Array Oper} {rest : List Oper} {o : Oper} {a : Act} {Q : Exit → Act → World → Prop} (hgd : o.guard = none) (x y : Operand) (ho : o.op = .binOp .eql 23 x y 23)
    (p q : Addr) (hx : a.eval x = .pointer (some p)) (hy : a.eval y = .pointer (some q)) (hne : p ≠ q) (hp : Row w p.block) (hq : Row w q.block)
    (h : wpList Yba.prog ops Q rest (a.put o.dst (.bool false)) w) : wpList Yba.prog ops Q (o :: rest) a w := by
  refine wpList_plain hgd fun K' hK' => ?_
  unfold Oper.wp
  have hg : eqGuard .eql 23 x y (.pointer (some p)) (.pointer (some q)) = pure () := rfl
  simp [execOp, ho, hx, hy, hg, eql_other hne hp hq, Result.andThen]
  exact hK' _ _ h

set_option maxHeartbeats 400000 in
/-- PushFront onto an empty queue. -/
theorem pushFront_first (b x : Nat) (w : World) (v1 v2 : Value) (hbx : ¬ b = x) (hxb : ¬ x = b) (ht : w.cell? ⟨b, 2, none⟩ = some (.pointer none)) (h1 : w.cell? ⟨x, 1, none⟩ = some v1) (h2 : w.cell? ⟨x, 2, none⟩ = some v2)
    (f0 : w.frozen? ⟨b, 2, none⟩ = false) (f1 : w.frozen? ⟨x, 1, none⟩ = false) (f2 : w.frozen? ⟨x, 2, none⟩ = false) :
    Calls Yba.prog 15 #[.pointer (some ⟨b, 2, none⟩), .pointer (some ⟨x, 0, none⟩)] w fun e w' => e = .returned (.tuple #[]) ∧
      w' = ((w.setCell ⟨x, 1, none⟩ (.pointer (some ⟨x, 0, none⟩))).setCell ⟨x, 2, none⟩ (.pointer (some ⟨x, 0, none⟩))).setCell ⟨b, 2, none⟩ (.pointer (some ⟨x, 0, none⟩)) := by
  go_enter Yba.func15, Yba.ntmps15
  go_wp2
  exact bodyPost_ret (results_none rfl _ _ _) rfl ⟨rfl, rfl⟩

set_option maxHeartbeats 400000 in
/-- Push onto an empty queue. -/
theorem push_first (b x : Nat) (w : World) (v1 v2 : Value) (hbx : ¬ b = x) (hxb : ¬ x = b) (ht : w.cell? ⟨b, 2, none⟩ = some (.pointer none)) (h1 : w.cell? ⟨x, 1, none⟩ = some v1) (h2 : w.cell? ⟨x, 2, none⟩ = some v2)
    (f0 : w.frozen? ⟨b, 2, none⟩ = false) (f1 : w.frozen? ⟨x, 1, none⟩ = false) (f2 : w.frozen? ⟨x, 2, none⟩ = false) :
    Calls Yba.prog 8 #[.pointer (some ⟨b, 2, none⟩), .pointer (some ⟨x, 0, none⟩)] w fun e w' => e = .returned (.tuple #[]) ∧
      w' = (((w.setCell ⟨x, 1, none⟩ (.pointer (some ⟨x, 0, none⟩))).setCell ⟨x, 2, none⟩ (.pointer (some ⟨x, 0, none⟩))).setCell ⟨b, 2, none⟩ (.pointer (some ⟨x, 0, none⟩))).setCell ⟨b, 2, none⟩ (.pointer (some ⟨x, 0, none⟩)) := by
  go_enter Yba.func8, Yba.ntmps8
  go_wp2_with (go_at_call 15; refine (pushFront_first b x w v1 v2 hbx hxb ht h1 h2 f0 f1 f2).mono ?_; rintro e w' ⟨rfl, rfl⟩)
  go_end0
  exact ⟨rfl, rfl⟩

set_option maxHeartbeats 400000 in
/-- PushFront onto a queue whose newest is tl and whose oldest is o. -/
theorem pushFront_more (b x o tl : Nat) (w : World) (v1 v2 v3 : Value) (hbx : ¬ b = x) (hxb : ¬ x = b) (hbo : ¬ b = o) (hbt : ¬ b = tl) (hxo : ¬ x = o) (hox : ¬ o = x) (hxt : ¬ x = tl) (htx : ¬ tl = x)
    (ht : w.cell? ⟨b, 2, none⟩ = some (.pointer (some ⟨tl, 0, none⟩))) (hn : w.cell? ⟨tl, 1, none⟩ = some (.pointer (some ⟨o, 0, none⟩))) (h1 : w.cell? ⟨x, 1, none⟩ = some v1) (h2 : w.cell? ⟨x, 2, none⟩ = some v2) (h3 : w.cell? ⟨o, 2, none⟩ = some v3)
    (f1 : w.frozen? ⟨x, 1, none⟩ = false) (f2 : w.frozen? ⟨x, 2, none⟩ = false) (f3 : w.frozen? ⟨o, 2, none⟩ = false) (f4 : w.frozen? ⟨tl, 1, none⟩ = false) :
    Calls Yba.prog 15 #[.pointer (some ⟨b, 2, none⟩), .pointer (some ⟨x, 0, none⟩)] w fun e w' => e = .returned (.tuple #[]) ∧
      w' = (((w.setCell ⟨x, 1, none⟩ (.pointer (some ⟨o, 0, none⟩))).setCell ⟨x, 2, none⟩ (.pointer (some ⟨tl, 0, none⟩))).setCell ⟨o, 2, none⟩ (.pointer (some ⟨x, 0, none⟩))).setCell ⟨tl, 1, none⟩ (.pointer (some ⟨x, 0, none⟩)) := by
  go_enter Yba.func15, Yba.ntmps15
  go_wp2
  go_end0
  exact ⟨rfl, rfl⟩

set_option maxHeartbeats 400000 in
/-- Push onto a queue whose newest is tl and whose oldest is o. -/
theorem push_more (b x o tl : Nat) (w : World) (v1 v2 v3 : Value) (hbx : ¬ b = x) (hxb : ¬ x = b) (hbo : ¬ b = o) (hbt : ¬ b = tl) (hxo : ¬ x = o) (hox : ¬ o = x) (hxt : ¬ x = tl) (htx : ¬ tl = x)
    (ht : w.cell? ⟨b, 2, none⟩ = some (.pointer (some ⟨tl, 0, none⟩))) (hn : w.cell? ⟨tl, 1, none⟩ = some (.pointer (some ⟨o, 0, none⟩))) (h1 : w.cell? ⟨x, 1, none⟩ = some v1) (h2 : w.cell? ⟨x, 2, none⟩ = some v2) (h3 : w.cell? ⟨o, 2, none⟩ = some v3)
    (f0 : w.frozen? ⟨b, 2, none⟩ = false) (f1 : w.frozen? ⟨x, 1, none⟩ = false) (f2 : w.frozen? ⟨x, 2, none⟩ = false) (f3 : w.frozen? ⟨o, 2, none⟩ = false) (f4 : w.frozen? ⟨tl, 1, none⟩ = false) :
    Calls Yba.prog 8 #[.pointer (some ⟨b, 2, none⟩), .pointer (some ⟨x, 0, none⟩)] w fun e w' => e = .returned (.tuple #[]) ∧
      w' = ((((w.setCell ⟨x, 1, none⟩ (.pointer (some ⟨o, 0, none⟩))).setCell ⟨x, 2, none⟩ (.pointer (some ⟨tl, 0, none⟩))).setCell ⟨o, 2, none⟩ (.pointer (some ⟨x, 0, none⟩))).setCell ⟨tl, 1, none⟩ (.pointer (some ⟨x, 0, none⟩))).setCell ⟨b, 2, none⟩ (.pointer (some ⟨x, 0, none⟩)) := by
  go_enter Yba.func8, Yba.ntmps8
  go_wp2_with (go_at_call 15; refine (pushFront_more b x o tl w v1 v2 v3 hbx hxb hbo hbt hxo hox hxt htx ht hn h1 h2 h3 f1 f2 f3 f4).mono ?_; rintro e w' ⟨rfl, rfl⟩)
  go_end0
  exact ⟨rfl, rfl⟩

set_option maxHeartbeats 400000 in
/-- Remove the only one. -/
theorem remove_one (b x : Nat) (w : World) (v : Value) (hbx : ¬ b = x) (hxb : ¬ x = b) (ht : w.cell? ⟨b, 2, none⟩ = some (.pointer (some ⟨x, 0, none⟩))) (h1 : w.cell? ⟨x, 1, none⟩ = some (.pointer (some ⟨x, 0, none⟩))) (h2 : w.cell? ⟨x, 2, none⟩ = some v)
    (f0 : w.frozen? ⟨b, 2, none⟩ = false) (f1 : w.frozen? ⟨x, 1, none⟩ = false) (f2 : w.frozen? ⟨x, 2, none⟩ = false) :
    Calls Yba.prog 14 #[.pointer (some ⟨b, 2, none⟩), .pointer (some ⟨x, 0, none⟩)] w fun e w' => e = .returned (.bool true) ∧
      w' = ((w.setCell ⟨b, 2, none⟩ (.pointer none)).setCell ⟨x, 1, none⟩ (.pointer none)).setCell ⟨x, 2, none⟩ (.pointer none) := by
  have hs := eql_same
  go_enter Yba.func14, Yba.ntmps14
  go_wp2
  go_ret
  exact ⟨rfl, rfl⟩

set_option maxHeartbeats 1000000 in
/-- Remove the oldest, x, of several: nx behind it, tl the newest. -/
theorem remove_more (b x nx tl : Nat) (w : World) (v3 v4 : Value) (hbx : ¬ b = x) (hxb : ¬ x = b) (hbo : ¬ b = nx) (hbt : ¬ b = tl) (hxo : ¬ x = nx) (hox : ¬ nx = x) (hxt : ¬ x = tl) (htx : ¬ tl = x)
    (ht : w.cell? ⟨b, 2, none⟩ = some (.pointer (some ⟨tl, 0, none⟩))) (h1 : w.cell? ⟨x, 1, none⟩ = some (.pointer (some ⟨nx, 0, none⟩))) (h2 : w.cell? ⟨x, 2, none⟩ = some (.pointer (some ⟨tl, 0, none⟩))) (h3 : w.cell? ⟨nx, 2, none⟩ = some v3) (h4 : w.cell? ⟨tl, 1, none⟩ = some v4)
    (f1 : w.frozen? ⟨x, 1, none⟩ = false) (f2 : w.frozen? ⟨x, 2, none⟩ = false) (f3 : w.frozen? ⟨nx, 2, none⟩ = false) (f4 : w.frozen? ⟨tl, 1, none⟩ = false) (rx : Row w x) (rn : Row w nx) (rt : Row w tl) :
    Calls Yba.prog 14 #[.pointer (some ⟨b, 2, none⟩), .pointer (some ⟨x, 0, none⟩)] w fun e w' => e = .returned (.bool true) ∧ ∃ q,
      w' = (((((w.setCell ⟨tl, 1, none⟩ (.pointer (some ⟨nx, 0, none⟩))).setCell ⟨nx, 2, none⟩ (.pointer (some ⟨tl, 0, none⟩))).setCell ⟨x, 1, none⟩ (.pointer none)).setCell ⟨x, 2, none⟩ (.pointer none))).drewN q := by
  have hne1 : (⟨nx, 0, none⟩ : Addr) ≠ ⟨x, 0, none⟩ := by simp
  have hne2 : (⟨tl, 0, none⟩ : Addr) ≠ ⟨x, 0, none⟩ := by simp
  have he1 := eql_other hne1 rn rx
  have he2 : (binOp .eql 23 (.pointer (some ⟨tl, 0, none⟩)) (.pointer (some ⟨x, 0, none⟩))).run Yba.prog ((w.setCell ⟨tl, 1, none⟩ (.pointer (some ⟨nx, 0, none⟩))).setCell ⟨nx, 2, none⟩ (.pointer (some ⟨tl, 0, none⟩))).drew.drew = .ok (.bool false) ((w.setCell ⟨tl, 1, none⟩ (.pointer (some ⟨nx, 0, none⟩))).setCell ⟨nx, 2, none⟩ (.pointer (some ⟨tl, 0, none⟩))).drew.drew :=
    eql_other hne2 (by exact (rt.set ⟨tl, 1, none⟩ (.pointer (some ⟨nx, 0, none⟩))).set ⟨nx, 2, none⟩ (.pointer (some ⟨tl, 0, none⟩))) (by exact (rx.set ⟨tl, 1, none⟩ (.pointer (some ⟨nx, 0, none⟩))).set ⟨nx, 2, none⟩ (.pointer (some ⟨tl, 0, none⟩)))
  clear rx rn rt
  go_enter Yba.func14, Yba.ntmps14
  go_wp2
  go_region
  all_goals go_wp2
  all_goals go_region
  all_goals go_wp2
  go_ret
  exact ⟨rfl, 2, rfl⟩

set_option maxHeartbeats 400000 in
/-- Pop the only one. -/
theorem pop_one (b x : Nat) (w : World) (v : Value) (hbx : ¬ b = x) (hxb : ¬ x = b) (ht : w.cell? ⟨b, 2, none⟩ = some (.pointer (some ⟨x, 0, none⟩))) (h1 : w.cell? ⟨x, 1, none⟩ = some (.pointer (some ⟨x, 0, none⟩))) (h2 : w.cell? ⟨x, 2, none⟩ = some v)
    (f0 : w.frozen? ⟨b, 2, none⟩ = false) (f1 : w.frozen? ⟨x, 1, none⟩ = false) (f2 : w.frozen? ⟨x, 2, none⟩ = false) :
    Calls Yba.prog 6 #[.pointer (some ⟨b, 2, none⟩)] w fun e w' => e = .returned (.pointer (some ⟨x, 0, none⟩)) ∧
      w' = ((w.setCell ⟨b, 2, none⟩ (.pointer none)).setCell ⟨x, 1, none⟩ (.pointer none)).setCell ⟨x, 2, none⟩ (.pointer none) := by
  go_enter Yba.func6, Yba.ntmps6
  go_wp2_with (go_at_call 14; refine (remove_one b x w v hbx hxb ht h1 h2 f0 f1 f2).mono ?_; rintro e w' ⟨rfl, rfl⟩)
  go_ret
  exact ⟨rfl, rfl⟩

set_option maxHeartbeats 400000 in
/-- Pop the oldest, x, of several: nx behind it, tl the newest. -/
theorem pop_more (b x nx tl : Nat) (w : World) (v3 : Value) (hbx : ¬ b = x) (hxb : ¬ x = b) (hbo : ¬ b = nx) (hbt : ¬ b = tl) (hxo : ¬ x = nx) (hox : ¬ nx = x) (hxt : ¬ x = tl) (htx : ¬ tl = x)
    (ht : w.cell? ⟨b, 2, none⟩ = some (.pointer (some ⟨tl, 0, none⟩))) (h1 : w.cell? ⟨x, 1, none⟩ = some (.pointer (some ⟨nx, 0, none⟩))) (h2 : w.cell? ⟨x, 2, none⟩ = some (.pointer (some ⟨tl, 0, none⟩))) (h3 : w.cell? ⟨nx, 2, none⟩ = some v3) (h4 : w.cell? ⟨tl, 1, none⟩ = some (.pointer (some ⟨x, 0, none⟩)))
    (f1 : w.frozen? ⟨x, 1, none⟩ = false) (f2 : w.frozen? ⟨x, 2, none⟩ = false) (f3 : w.frozen? ⟨nx, 2, none⟩ = false) (f4 : w.frozen? ⟨tl, 1, none⟩ = false) (rx : Row w x) (rn : Row w nx) (rt : Row w tl) :
    Calls Yba.prog 6 #[.pointer (some ⟨b, 2, none⟩)] w fun e w' => e = .returned (.pointer (some ⟨x, 0, none⟩)) ∧ ∃ q,
      w' = (((((w.setCell ⟨tl, 1, none⟩ (.pointer (some ⟨nx, 0, none⟩))).setCell ⟨nx, 2, none⟩ (.pointer (some ⟨tl, 0, none⟩))).setCell ⟨x, 1, none⟩ (.pointer none)).setCell ⟨x, 2, none⟩ (.pointer none))).drewN q := by
  go_enter Yba.func6, Yba.ntmps6
  go_wp2_with (go_at_call 14; refine (remove_more b x nx tl w v3 _ hbx hxb hbo hbt hxo hox hxt htx ht h1 h2 h3 h4 f1 f2 f3 f4 rx rn rt).mono ?_; rintro e w' ⟨rfl, q, rfl⟩)
  go_ret
  exact ⟨rfl, q, rfl⟩
end Go.Proofs.Ybulkajys
