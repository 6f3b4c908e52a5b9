/-
  Seat b1786a, LawS1786CWake: unlockSlow where a wake is due, in starvation mode and in normal mode.
-/
import Derived.Test.YbulkajysCalls
namespace Go.Proofs.Ybulkajys
open Go.RowKit Go.Conc
set_option linter.unusedVariables false

theorem add_i32 (x y : Int) (w : World) (h0 : -2147483648 ≤ x + y) (h1 : x + y ≤ 2147483647) : (Op.intArith .add .i32 x y).run Yba.prog w = .ok (.int .i32 (x + y)) w := by
  have e : IntKind.i32.wrap (x + y) = x + y := by rw [IntKind.wrap_i32]; omega
  simp [Op.intArith, e]

section
variable {B k kk s t : Nat} {st wt : Int} {w0 w : World}

theorem Qs.setChan (h : Qs B k kk s t st wt w0 w) (buf : Array Value) : Qs B k kk s t st wt w0 (w.setChan (B + 2) 1 buf false 1 0 false) := by
  have bl : ∀ j, j ≠ B + 2 → (w.setChan (B + 2) 1 buf false 1 0 false).heap[j]? = w.heap[j]? := fun j hj => by simp only [World.setChan]; rw [Array.getElem?_setIfInBounds_ne (by omega)]
  exact ⟨below_setChan h.below (by omega) _ _ _ _ _ _, by simpa [World.setChan] using h.size, h.m.of_block (bl _ (by omega)), h.ws.of_block (bl _ (by omega)), fun j hj => (h.wt j hj).of_block (bl _ (by omega))⟩

set_option maxHeartbeats 1000000 in
/-- unlockSlow in starvation mode: the oldest is taken off, the lock stays. -/
theorem unlock_starving (y : Int) (h : Qs B k k 0 k 13 ((k : Int) * 2) w0 w) (hk : 0 < k) (hk8 : k ≤ 8) (hch : w.heap[B + 2]? = some (.chan 1 #[] false 0 0 false)) (hy : y = if 1 < k then 13 else 5) :
    Calls Yba.prog 5 #[.pointer (some ⟨B, 0, none⟩)] w fun e w' => e = .returned (.tuple #[]) ∧ Qs B k k 1 k y ((k : Int) * 2 + -2) w0 w' := by
  have c0 : w.cell? ⟨B, 0, none⟩ = some (.int .i32 13) := h.cm (o := 0) (by omega)
  have hcas := cas_at 15 c0 (h.m.frozen 0)
  have hpop : Calls Yba.prog 6 #[.pointer (some ⟨B, 2, none⟩)] (w.setCell ⟨B, 0, none⟩ (.int .i32 15)) fun e w' => e = .returned (.pointer (some ⟨B + 3, 0, none⟩)) ∧ Qs B k k 1 k 15 ((k : Int) * 2) w0 w' ∧ w'.heap[B + 2]? = some (.chan 1 #[] false 0 0 false) := by
    refine (pop_q (h.setState 15) hk (Nat.le_refl _)).mono ?_
    rintro e w' ⟨rfl, q, hq⟩
    exact ⟨rfl, q, hq.trans ((Below.heap_setCell _ _ _ _ (by simp)).trans hch)⟩
  have b1 : bits .and .i32 13 1 = 1 := by decide
  have b8 : bits .and .i32 13 8 = 8 := by decide
  have b2 : bits .or .i32 13 2 = 15 := by decide
  have b4 : bits .and .i32 13 4 = 4 := by decide
  go_enter Yba.func5, Yba.ntmps5
  go_wp2_with fail
  refine wp_loop_rounds 1 ?_
  rw [rounds_succ]
  go_wp2_with fail
  refine (outside B 13 _ c0 (by decide)).mono ?_
  rintro e w' ⟨rfl, rfl⟩
  go_wp2_with fail
  refine hpop.mono ?_
  rintro e w2 ⟨rfl, Q2, hch2⟩
  have c1 : w2.cell? ⟨B, 1, none⟩ = some (.int .i32 ((k : Int) * 2)) := Q2.cm (o := 1) (by omega)
  have ha := add_at c1 (Q2.m.frozen 1) (add_i32 ((k : Int) * 2) (-2) w2 (by omega) (by omega))
  have Q3 := Q2.setWaiters ((k : Int) * 2 + -2)
  have c3 : (w2.setCell ⟨B, 1, none⟩ (.int .i32 ((k : Int) * 2 + -2))).cell? ⟨B, 0, none⟩ = some (.int .i32 15) := Q3.cm (o := 0) (by omega)
  have hrel : Calls Yba.prog 11 #[.pointer (some ⟨B, 0, none⟩), .int .i32 13, .int .i32 ((k : Int) * 2 + -2)] (w2.setCell ⟨B, 1, none⟩ (.int .i32 ((k : Int) * 2 + -2))) fun e w' => e = .returned (.tuple #[]) ∧ w' = (w2.setCell ⟨B, 1, none⟩ (.int .i32 ((k : Int) * 2 + -2))).setCell ⟨B, 0, none⟩ (.int .i32 y) := by
    by_cases h1 : 1 < k
    · have hev : ∀ j : Nat, j < 8 → (bits .and .i32 (2 * (j : Int)) 1 == 0) = true := by decide
      have e1 : ((k : Int) * 2 + -2) = 2 * ((k - 1 : Nat) : Int) := by omega
      refine release_due B 13 _ 5 y _ _ c3 (Q3.m.frozen 0) (by omega) (by omega) (by decide) (by rw [hy, if_pos h1]; decide) (by rw [bne_iff_ne]; omega) ?_
      rw [e1]
      exact hev _ (by omega)
    · refine release_no B 13 _ y _ _ c3 (Q3.m.frozen 0) (by omega) (by omega) (by rw [hy, if_neg h1]; decide) (.inl ?_)
      rw [show ((k : Int) * 2 + -2) = 0 by omega]
      decide
  have Q4 := Q3.setState y
  have c4 : ((w2.setCell ⟨B, 1, none⟩ (.int .i32 ((k : Int) * 2 + -2))).setCell ⟨B, 0, none⟩ (.int .i32 y)).cell? ⟨B + 3, 0, none⟩ = some (.chan (some (B + 2))) := by
    have := Q4.cw (j := 0) hk (o := 0) (by omega)
    simpa [wcell] using this
  have hch4 : ((w2.setCell ⟨B, 1, none⟩ (.int .i32 ((k : Int) * 2 + -2))).setCell ⟨B, 0, none⟩ (.int .i32 y)).heap[B + 2]? = some (.chan 1 #[] false 0 0 false) := by
    rw [Below.heap_setCell _ _ _ _ (by simp), Below.heap_setCell _ _ _ _ (by simp)]
    exact hch2
  have hwk := wake_any (B + 3) (B + 2) 1 _ c4 hch4
  have HQ : Hid (Qs B k k 1 k y ((k : Int) * 2 + -2) w0 (((w2.setCell ⟨B, 1, none⟩ (.int .i32 ((k : Int) * 2 + -2))).setCell ⟨B, 0, none⟩ (.int .i32 y)).setChan (B + 2) 1 #[.int .u8 1] false 1 0 false)) := Q4.setChan _
  clear c4 hch4 Q3 Q4 hch2 hy hcas hpop hch
  go_wp2_with (first | (go_at_call 11; refine hrel.mono ?_; rintro e w' ⟨rfl, rfl⟩) | (go_at_call 13; refine hwk.mono ?_; rintro e w' ⟨rfl, rfl⟩))
  exact bodyPost_ret (results_none rfl _ _ _) rfl ⟨rfl, HQ.out⟩

set_option maxHeartbeats 1000000 in
/-- unlockSlow in normal mode: the oldest is taken off, the lock is freed. -/
theorem unlock_normal (h : Qs B k k 0 k 9 ((k : Int) * 2) w0 w) (hk : 0 < k) (hk8 : k ≤ 8) (hch : w.heap[B + 2]? = some (.chan 1 #[] false 0 0 false)) :
    Calls Yba.prog 5 #[.pointer (some ⟨B, 0, none⟩)] w fun e w' => e = .returned (.tuple #[]) ∧ Qs B k k 1 k 0 ((k : Int) * 2 + -1) w0 w' := by
  have c0 : w.cell? ⟨B, 0, none⟩ = some (.int .i32 9) := h.cm (o := 0) (by omega)
  have hcas := cas_at 11 c0 (h.m.frozen 0)
  have hpop : Calls Yba.prog 6 #[.pointer (some ⟨B, 2, none⟩)] (w.setCell ⟨B, 0, none⟩ (.int .i32 11)) fun e w' => e = .returned (.pointer (some ⟨B + 3, 0, none⟩)) ∧ Qs B k k 1 k 11 ((k : Int) * 2) w0 w' ∧ w'.heap[B + 2]? = some (.chan 1 #[] false 0 0 false) := by
    refine (pop_q (h.setState 11) hk (Nat.le_refl _)).mono ?_
    rintro e w' ⟨rfl, q, hq⟩
    exact ⟨rfl, q, hq.trans ((Below.heap_setCell _ _ _ _ (by simp)).trans hch)⟩
  have b1 : bits .and .i32 9 1 = 1 := by decide
  have b8 : bits .and .i32 9 8 = 8 := by decide
  have b2 : bits .or .i32 9 2 = 11 := by decide
  have b4 : bits .and .i32 9 4 = 0 := by decide
  have b5 : bits .andNot .i32 9 1 = 8 := by decide
  go_enter Yba.func5, Yba.ntmps5
  go_wp2_with fail
  refine wp_loop_rounds 1 ?_
  rw [rounds_succ]
  go_wp2_with fail
  refine (outside B 9 _ c0 (by decide)).mono ?_
  rintro e w' ⟨rfl, rfl⟩
  go_wp2_with fail
  refine hpop.mono ?_
  rintro e w2 ⟨rfl, Q2, hch2⟩
  have c1 : w2.cell? ⟨B, 1, none⟩ = some (.int .i32 ((k : Int) * 2)) := Q2.cm (o := 1) (by omega)
  have ha := add_at c1 (Q2.m.frozen 1) (add_i32 ((k : Int) * 2) (-1) w2 (by omega) (by omega))
  have Q3 := Q2.setWaiters ((k : Int) * 2 + -1)
  have c3 : (w2.setCell ⟨B, 1, none⟩ (.int .i32 ((k : Int) * 2 + -1))).cell? ⟨B, 0, none⟩ = some (.int .i32 11) := Q3.cm (o := 0) (by omega)
  have hrel : Calls Yba.prog 11 #[.pointer (some ⟨B, 0, none⟩), .int .i32 8, .int .i32 ((k : Int) * 2 + -1)] (w2.setCell ⟨B, 1, none⟩ (.int .i32 ((k : Int) * 2 + -1))) fun e w' => e = .returned (.tuple #[]) ∧ w' = (w2.setCell ⟨B, 1, none⟩ (.int .i32 ((k : Int) * 2 + -1))).setCell ⟨B, 0, none⟩ (.int .i32 0) := by
    by_cases h1 : 1 < k
    · have hev : ∀ j : Nat, j < 8 → (bits .and .i32 (2 * (j : Int) + 1) 1 == 0) = false := by decide
      have e1 : ((k : Int) * 2 + -1) = 2 * ((k - 1 : Nat) : Int) + 1 := by omega
      refine release_no B 8 _ 0 _ _ c3 (Q3.m.frozen 0) (by omega) (by omega) (by decide) (.inr ⟨by rw [bne_iff_ne]; omega, ?_⟩)
      rw [e1]
      exact hev _ (by omega)
    · refine release_no B 8 _ 0 _ _ c3 (Q3.m.frozen 0) (by omega) (by omega) (by decide) (.inl ?_)
      rw [show ((k : Int) * 2 + -1) = 1 by omega]
      decide
  have Q4 := Q3.setState 0
  have c4 : ((w2.setCell ⟨B, 1, none⟩ (.int .i32 ((k : Int) * 2 + -1))).setCell ⟨B, 0, none⟩ (.int .i32 0)).cell? ⟨B + 3, 0, none⟩ = some (.chan (some (B + 2))) := by
    have := Q4.cw (j := 0) hk (o := 0) (by omega)
    simpa [wcell] using this
  have hch4 : ((w2.setCell ⟨B, 1, none⟩ (.int .i32 ((k : Int) * 2 + -1))).setCell ⟨B, 0, none⟩ (.int .i32 0)).heap[B + 2]? = some (.chan 1 #[] false 0 0 false) := by
    rw [Below.heap_setCell _ _ _ _ (by simp), Below.heap_setCell _ _ _ _ (by simp)]
    exact hch2
  have hwk := wake_any (B + 3) (B + 2) 0 _ c4 hch4
  have HQ : Hid (Qs B k k 1 k 0 ((k : Int) * 2 + -1) w0 (((w2.setCell ⟨B, 1, none⟩ (.int .i32 ((k : Int) * 2 + -1))).setCell ⟨B, 0, none⟩ (.int .i32 0)).setChan (B + 2) 1 #[.int .u8 0] false 1 0 false)) := Q4.setChan _
  clear c4 hch4 Q3 Q4 hch2 hcas hpop hch
  go_wp2_with (first | (go_at_call 11; refine hrel.mono ?_; rintro e w' ⟨rfl, rfl⟩) | (go_at_call 13; refine hwk.mono ?_; rintro e w' ⟨rfl, rfl⟩))
  exact bodyPost_ret (results_none rfl _ _ _) rfl ⟨rfl, HQ.out⟩
end
end Go.Proofs.Ybulkajys
