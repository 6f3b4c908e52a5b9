/-
  Seat b1786a, LawS1786CWake: NewWaiter, Wake (a send into a buffer with room), releaseQueue; Push and Pop over the ring.
-/
import Derived.Test.YbulkajysRing
import Derived.Conc.LoneCalls
namespace Go.Proofs.Ybulkajys
open Go.RowKit Go.Conc
set_option linter.unusedVariables false

theorem Yba.bytes39 : ∃ i, Yba.prog.info? 39 = some i ∧ i.bytes = 1 := by
  have h : (Yba.prog.info? 39).map (·.bytes) = some 1 := by kernel_rfl
  obtain ⟨i, hi, hb⟩ := Option.map_eq_some_iff.1 h
  exact ⟨i, hi, hb⟩
theorem mk1 (w : World) : (Instr.makeChan 41 (.int .i64 1)).run Yba.prog w = .ok (.chan (some w.heap.size)) (w.alloc (.chan 1 #[] false 0 0 false)) := by
  obtain ⟨i, hi, hb⟩ := Yba.bytes39
  simpa using run_makeChan (P := Yba.prog) (w := w) Yba.underlying41 hi .i64 1 (by omega) (by rw [hb]; omega)

theorem newWaiter (w : World) :
    Calls Yba.prog 7 #[] w fun e w' => e = .returned (.pointer (some ⟨w.heap.size + 1, 0, none⟩)) ∧ w' = (w.alloc (.chan 1 #[] false 0 0 false)).alloc (.cells #[.chan (some w.heap.size), .pointer none, .pointer none] 43) := by
  have hm := mk1
  go_enter Yba.func7, Yba.ntmps7
  go_wp2
  go_ret
  exact ⟨rfl, rfl⟩

set_option maxRecDepth 100000 in
/-- Wake: a send into a buffer with room. -/
theorem wake_any (x c : Nat) (y : Int) (w : World) (h : w.cell? ⟨x, 0, none⟩ = some (.chan (some c))) (hc : w.heap[c]? = some (.chan 1 #[] false 0 0 false)) :
    Calls Yba.prog 13 #[.pointer (some ⟨x, 0, none⟩), .int .u8 y] w fun e w' => e = .returned (.tuple #[]) ∧ w' = w.setChan c 1 #[.int .u8 y] false 1 0 false := by
  refine calls_of_loneTo fun cs => ?_
  have e : Frame.enter Yba.prog 13 #[.pointer (some ⟨x, 0, none⟩), .int .u8 y] .normal = (base 13).at ⟨#[.pointer (some ⟨x, 0, none⟩), .int .u8 y, undef, undef, undef, undef, undef, undef, undef], []⟩ [.code (Yba.f13.body.getD .skip)] := by
    simp [Frame.enter, Frame.at, Yba.func13, base, Yba.f13]
  rw [e]
  refine LoneTo.goes (n := 6) ?_
  simp only [Yba.f13, Option.getD_some]
  s_reg
  s_op
  s_op
  s_op
  s_op
  s_op
  s_stop
  refine LoneTo.step (step_lone_send_room (c := c) (cap := 1) (buf := #[]) (s := 0) (r := 0) (tm := false) (stepG_comm (cases := #[scase c (.int .u8 y) (.tuple #[])]) (blocking := true) (shape := .send) (w' := w) rfl rfl (by decide) (by simp [execOp, scase, Act.eval])) hc (by simp)) ?_
  rw [Frame.finish_at]
  walk_nrm
  refine LoneTo.goes (n := 2) ?_
  s_c stepG_region_end
  s_c stepG_end
  s_stop
  refine LoneTo.done ⟨.returned (.tuple #[]), _, rfl, ⟨rfl, ?_⟩, rfl, rfl, rfl, rfl, _, Yba.func13, by simp [results, Yba.f13, Frame.at]⟩
  rfl

/-- releaseQueue where no wake is due. -/
theorem release_no (b : Nat) (nx wt y : Int) (w : World) (v : Value) (hc : w.cell? ⟨b, 0, none⟩ = some v) (hf : w.frozen? ⟨b, 0, none⟩ = false) (h0 : 0 ≤ wt) (h1 : wt ≤ 100) (hn : bits .andNot .i32 nx 10 = y)
    (hw : (wt / 2 != 0) = false ∨ ((wt / 2 != 0) = true ∧ (bits .and .i32 wt 1 == 0) = false)) :
    Calls Yba.prog 11 #[.pointer (some ⟨b, 0, none⟩), .int .i32 nx, .int .i32 wt] w fun e w' => e = .returned (.tuple #[]) ∧ w' = w.setCell ⟨b, 0, none⟩ (.int .i32 y) := by
  have hst := store_at (y := y) hc hf
  rcases hw with hw | ⟨hw, hw2⟩
  · go_enter Yba.func11, Yba.ntmps11
    go_wp2
    go_end0
    exact ⟨rfl, rfl⟩
  · go_enter Yba.func11, Yba.ntmps11
    go_wp2
    go_end0
    exact ⟨rfl, rfl⟩
/-- releaseQueue where a wake is due. -/
theorem release_due (b : Nat) (nx wt n1 y : Int) (w : World) (v : Value) (hc : w.cell? ⟨b, 0, none⟩ = some v) (hf : w.frozen? ⟨b, 0, none⟩ = false) (h0 : 0 ≤ wt) (h1 : wt ≤ 100) (hn : bits .andNot .i32 nx 10 = n1) (hy : bits .or .i32 n1 8 = y)
    (hw : (wt / 2 != 0) = true) (hw2 : (bits .and .i32 wt 1 == 0) = true) :
    Calls Yba.prog 11 #[.pointer (some ⟨b, 0, none⟩), .int .i32 nx, .int .i32 wt] w fun e w' => e = .returned (.tuple #[]) ∧ w' = w.setCell ⟨b, 0, none⟩ (.int .i32 y) := by
  have hst := store_at (y := y) hc hf
  go_enter Yba.func11, Yba.ntmps11
  go_wp2
  go_end0
  exact ⟨rfl, rfl⟩

section
variable {B k kk s t : Nat} {st wt : Int} {w0 w : World}

theorem Qs.cm (h : Qs B k kk s t st wt w0 w) {o : Nat} (ho : o < 3) : w.cell? ⟨B, o, none⟩ = some (mcell B s t st wt o) := h.m.cell ho
theorem Qs.cw (h : Qs B k kk s t st wt w0 w) {j : Nat} (hj : j < kk) {o : Nat} (ho : o < 3) : w.cell? ⟨B + 3 + 2 * j, o, none⟩ = some (wcell B s t j o) := (h.wt j hj).cell ho

theorem push_q (h : Qs B k (t + 1) 0 t st wt w0 w) :
    Calls Yba.prog 8 #[.pointer (some ⟨B, 2, none⟩), wp B t] w fun e w' => e = .returned (.tuple #[]) ∧ Qs B k (t + 1) 0 (t + 1) st wt w0 w' ∧ w'.heap[B + 2]? = w.heap[B + 2]? ∧ w'.heap.size = w.heap.size := by
  by_cases ht : 0 < t
  · have c0 : w.cell? ⟨B, 2, none⟩ = some (.pointer (some ⟨B + 3 + 2 * (t - 1), 0, none⟩)) := by rw [h.cm (by omega)]; simp [mcell, ht, wp]
    have c1 : w.cell? ⟨B + 3 + 2 * (t - 1), 1, none⟩ = some (.pointer (some ⟨B + 3 + 2 * 0, 0, none⟩)) := by
      rw [h.cw (by omega) (by omega)]
      have : t - 1 + 1 = t := by omega
      have c4 : t - 1 < t := by omega
      simp [wcell, nxt, wp, this, c4]
    refine (push_more B (B + 3 + 2 * t) (B + 3 + 2 * 0) (B + 3 + 2 * (t - 1)) w _ _ _ (by omega) (by omega) (by omega) (by omega) (by omega) (by omega) (by omega) (by omega) c0 c1 (h.cw (by omega) (by omega)) (h.cw (by omega) (by omega)) (h.cw (j := 0) (by omega) (by omega))
      (h.m.frozen _) ((h.wt _ (by omega)).frozen _) ((h.wt _ (by omega)).frozen _) ((h.wt _ (by omega)).frozen _) ((h.wt _ (by omega)).frozen _)).mono ?_
    rintro e w' ⟨rfl, rfl⟩
    refine ⟨rfl, h.pushed_more ht, ?_, by simp [World.setCell]⟩
    rw [Below.heap_setCell _ _ _ _ (by simp), Below.heap_setCell _ _ _ _ (by simp <;> omega), Below.heap_setCell _ _ _ _ (by simp), Below.heap_setCell _ _ _ _ (by simp <;> omega), Below.heap_setCell _ _ _ _ (by simp <;> omega)]
  · obtain rfl : t = 0 := by omega
    have c0 : w.cell? ⟨B, 2, none⟩ = some (.pointer none) := by rw [h.cm (by omega)]; simp [mcell]
    refine (push_first B (B + 3 + 2 * 0) w _ _ (by omega) (by omega) c0 (h.cw (by omega) (by omega)) (h.cw (by omega) (by omega)) (h.m.frozen _) ((h.wt _ (by omega)).frozen _) ((h.wt _ (by omega)).frozen _)).mono ?_
    rintro e w' ⟨rfl, rfl⟩
    refine ⟨rfl, h.pushed_first, ?_, by simp [World.setCell]⟩
    rw [Below.heap_setCell _ _ _ _ (by simp), Below.heap_setCell _ _ _ _ (by simp), Below.heap_setCell _ _ _ _ (by simp), Below.heap_setCell _ _ _ _ (by simp)]

theorem pop_q (h : Qs B k kk s t st wt w0 w) (hst : s < t) (hk : t ≤ kk) :
    Calls Yba.prog 6 #[.pointer (some ⟨B, 2, none⟩)] w fun e w' => e = .returned (wp B s) ∧ Qs B k kk (s + 1) t st wt w0 w' ∧ w'.heap[B + 2]? = w.heap[B + 2]? := by
  have c0 : w.cell? ⟨B, 2, none⟩ = some (.pointer (some ⟨B + 3 + 2 * (t - 1), 0, none⟩)) := by rw [h.cm (by omega)]; simp [mcell, hst, wp]
  by_cases h1 : s + 1 < t
  · have e1 : ¬ s + 1 = t := by omega
    have c1 : w.cell? ⟨B + 3 + 2 * s, 1, none⟩ = some (.pointer (some ⟨B + 3 + 2 * (s + 1), 0, none⟩)) := by rw [h.cw (by omega) (by omega)]; simp [wcell, nxt, wp, hst, e1]
    have c2 : w.cell? ⟨B + 3 + 2 * s, 2, none⟩ = some (.pointer (some ⟨B + 3 + 2 * (t - 1), 0, none⟩)) := by rw [h.cw (by omega) (by omega)]; simp [wcell, prv, wp, hst]
    have c4 : w.cell? ⟨B + 3 + 2 * (t - 1), 1, none⟩ = some (.pointer (some ⟨B + 3 + 2 * s, 0, none⟩)) := by
      rw [h.cw (by omega) (by omega)]
      have e2 : t - 1 + 1 = t := by omega
      have e3 : s ≤ t - 1 ∧ t - 1 < t := by omega
      simp [wcell, nxt, wp, e2, e3]
    refine (pop_more B (B + 3 + 2 * s) (B + 3 + 2 * (s + 1)) (B + 3 + 2 * (t - 1)) w _ (by omega) (by omega) (by omega) (by omega) (by omega) (by omega) (by omega) (by omega) c0 c1 c2 (h.cw (by omega) (by omega)) c4
      ((h.wt _ (by omega)).frozen _) ((h.wt _ (by omega)).frozen _) ((h.wt _ (by omega)).frozen _) ((h.wt _ (by omega)).frozen _) (h.row (by omega)) (h.row (by omega)) (h.row (by omega))).mono ?_
    rintro e w' ⟨rfl, q, rfl⟩
    refine ⟨rfl, (h.popped_more h1).drewN q, ?_⟩
    show (World.setCell _ _ _).heap[B + 2]? = _
    rw [Below.heap_setCell _ _ _ _ (by simp <;> omega), Below.heap_setCell _ _ _ _ (by simp <;> omega), Below.heap_setCell _ _ _ _ (by simp <;> omega), Below.heap_setCell _ _ _ _ (by simp <;> omega)]
  · obtain rfl : t = s + 1 := by omega
    have c1 : w.cell? ⟨B + 3 + 2 * s, 1, none⟩ = some (.pointer (some ⟨B + 3 + 2 * s, 0, none⟩)) := by rw [h.cw (by omega) (by omega)]; simp [wcell, nxt, wp]
    refine (pop_one B (B + 3 + 2 * s) w _ (by omega) (by omega) c0 c1 (h.cw (by omega) (by omega)) (h.m.frozen _) ((h.wt _ (by omega)).frozen _) ((h.wt _ (by omega)).frozen _)).mono ?_
    rintro e w' ⟨rfl, rfl⟩
    refine ⟨rfl, h.popped_one hk, ?_⟩
    rw [Below.heap_setCell _ _ _ _ (by simp <;> omega), Below.heap_setCell _ _ _ _ (by simp <;> omega), Below.heap_setCell _ _ _ _ (by simp)]

theorem pop_end (h : Qs B k kk s s st wt w0 w) : Calls Yba.prog 6 #[.pointer (some ⟨B, 2, none⟩)] w fun e w' => e = .returned (.pointer none) ∧ w' = w :=
  pop_none B w (by rw [h.cm (by omega)]; simp [mcell])
end
end Go.Proofs.Ybulkajys
