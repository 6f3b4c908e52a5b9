/-
  Seat b1786a, LawS1786CWake: the walk of the law itself (function 4).
-/
import Derived.Test.YbulkajysUnlock
import Derived.Deep.RegionWith
namespace Go.Proofs.Ybulkajys
open Go.RowKit Go.Conc
set_option linter.unusedVariables false

theorem Yba.info23 : (Yba.prog.info? 23).map (fun i => (i.zero, i.size, i.bytes)) = some (some (.pointer none), 1, 8) := by kernel_rfl

theorem Qs.start {k : Nat} (w : World) :
    Qs w.heap.size k 0 0 0 0 0 w ((w.alloc (Obj.cells #[Value.int IntKind.i32 0, Value.int IntKind.i32 0, Value.pointer none] 27)).alloc (Obj.cells (madeCells #[Value.pointer none] k) 23)) := by
  refine ⟨((Below.refl _ _).alloc (Nat.le_refl _) _).alloc (by simp) _, by simp, ?_, ?_, fun j hj => by omega⟩
  · have hr := World.rowIs_alloc w #[Value.int IntKind.i32 0, Value.int IntKind.i32 0, Value.pointer none] 27 (mcell w.heap.size 0 0 0 0) (by
      intro o ho
      match o, ho with
      | 0, _ => simp [mcell]
      | 1, _ => simp [mcell]
      | 2, _ => simp [mcell])
    exact hr.alloc _
  · have hr := World.rowIs_made (w.alloc (Obj.cells #[Value.int IntKind.i32 0, Value.int IntKind.i32 0, Value.pointer none] 27)) (.pointer none) k 23
    simp only [World.size_alloc] at hr
    exact hr.congr fun j _ => by simp

/-- One round's making: the new waiter, as the walk meets it. -/
theorem make_q {B k i : Nat} {w0 w : World} (h : Qs B k i 0 i 0 0 w0 w) (hz : w.heap.size = B + 2 + 2 * i) (hi : i < k) (hch : 0 < i → w.heap[B + 2]? = some (.chan 1 #[] false 0 0 false)) :
    Calls Yba.prog 7 #[] w fun e w' => e = .returned (.pointer (some ⟨B + 3 + 2 * i, 0, none⟩)) ∧ (∃ v, w'.cell? ⟨B + 1, i, none⟩ = some v) ∧ w'.frozen? ⟨B + 1, i, none⟩ = false ∧
      Qs B k (i + 1) 0 i 0 0 w0 (w'.setCell ⟨B + 1, i, none⟩ (.pointer (some ⟨B + 3 + 2 * i, 0, none⟩))) ∧ (w'.setCell ⟨B + 1, i, none⟩ (.pointer (some ⟨B + 3 + 2 * i, 0, none⟩))).heap.size = B + 2 + 2 * (i + 1) ∧
      (w'.setCell ⟨B + 1, i, none⟩ (.pointer (some ⟨B + 3 + 2 * i, 0, none⟩))).heap[B + 2]? = some (.chan 1 #[] false 0 0 false) := by
  refine (newWaiter w).mono ?_
  rintro e w' ⟨rfl, rfl⟩
  have e1 : w.heap.size + 1 = B + 3 + 2 * i := by omega
  have hs := h.size
  refine ⟨by rw [e1], ⟨_, ((h.ws.alloc _).alloc _).cell hi⟩, ((h.ws.alloc _).alloc _).frozen i, h.made (Nat.le_refl _) hz rfl, by simp [World.setCell]; omega, ?_⟩
  rw [Below.heap_setCell _ _ _ _ (by simp), Below.heap_alloc _ _ _ (by simp; omega)]
  by_cases h0 : 0 < i
  · rw [Below.heap_alloc _ _ _ (by omega)]
    exact hch h0
  · obtain rfl : i = 0 := by omega
    have := heap_alloc_new w (.chan 1 #[] false 0 0 false)
    rw [hz] at this
    exact this

set_option maxRecDepth 100000 in
set_option maxHeartbeats 2000000 in
theorem wake_walk (n : Int) (s : Bool) (w : World) (h0 : 0 ≤ n) (h1 : n ≤ 255) :
    Calls Yba.prog 4 #[.int .u8 n, .bool s] w fun e w' => e = .returned (.bool true) ∧ Below w.heap.size w w' := by
  obtain ⟨k, hkk, hk0, hk8⟩ : ∃ k : Nat, 1 + n % 8 = (k : Int) ∧ 0 < k ∧ k ≤ 8 := ⟨(1 + n % 8).toNat, by omega, by omega, by omega⟩
  have hmk := run_make_row' (P := Yba.prog) 30 23 (.pointer none) 8 Yba.underlying30 Yba.info23 rfl .i64 .i64 k (by omega) (by omega)
  have hst := Qs.start (k := k) w
  have hns := neq_same
  go_enter Yba.func4, Yba.ntmps4
  go_wp2_with fail
  go_loopw [8] (fun c wr => ∃ i : Nat, c = .int .i64 i ∧ i ≤ k ∧ Qs w.heap.size k i 0 i 0 0 w wr ∧ Hid (wr.heap.size = w.heap.size + 2 + 2 * i ∧ (0 < i → wr.heap[w.heap.size + 2]? = some (.chan 1 #[] false 0 0 false)))) (fun c _ => k - (intOf c).toNat)
  case atStart => exact ⟨0, rfl, Nat.zero_le _, hst, by simp, fun h => by omega⟩
  case round =>
    obtain ⟨i, rfl, hi, hQ, hH⟩ := hrel
    clear hst hmk
    by_cases hlt : i < k
    · have hmq := make_q hQ hH.out.1 hlt hH.out.2
      have hil : (i : Int) < (k : Int) := by omega
      go_wp2_with (go_at_call 7; refine hmq.mono ?_; rintro e w1 ⟨rfl, ⟨v, g1⟩, g2, Q1, hz1, hc1⟩)
      have hpush : Calls Yba.prog 8 #[.pointer (some ⟨w.heap.size, 2, none⟩), .pointer (some ⟨w.heap.size + 3 + 2 * i, 0, none⟩)] (w1.setCell ⟨w.heap.size + 1, i, none⟩ (.pointer (some ⟨w.heap.size + 3 + 2 * i, 0, none⟩))).drew fun e w' => e = .returned (.tuple #[]) ∧ Qs w.heap.size k (i + 1) 0 (i + 1) 0 0 w w' ∧ Hid (w'.heap.size = w.heap.size + 2 + 2 * (i + 1) ∧ (0 < i + 1 → w'.heap[w.heap.size + 2]? = some (.chan 1 #[] false 0 0 false))) := by
        refine (push_q Q1.drew).mono ?_
        rintro e w' ⟨rfl, q1, q2, q3⟩
        exact ⟨rfl, q1, q3.trans hz1, fun _ => q2.trans hc1⟩
      clear Q1 hz1 hc1 hmq hH hQ
      go_region_with (go_at_call 8; refine hpush.mono ?_; rintro e w' ⟨rfl, Q2, HH2⟩)
      all_goals
        go_wp2_with fail
        go_roundw
        case rel => exact ⟨i + 1, by go_num, by omega, Q2, HH2⟩
        case measure => simp [intOf]; omega
    · obtain rfl : i = k := by omega
      have m0 := hQ.cm (o := 0) (by omega)
      have m1 := hQ.cm (o := 1) (by omega)
      have f0 := hQ.m.frozen 0
      have f1 := hQ.m.frozen 1
      have hch := hH.out.2 hk0
      have o4 : bits .or .i32 9 4 = 13 := by decide
      have o8 : bits .or .i32 5 8 = 13 := by decide
      have tl : ∀ (st wt : Int) (w2 : World), Qs w.heap.size i i 1 i st wt w w2 → w2.cell? ⟨w.heap.size, 0, none⟩ = some (.int .i32 st) ∧ w2.cell? ⟨w.heap.size, 1, none⟩ = some (.int .i32 wt) := fun st wt w2 q => ⟨q.cm (o := 0) (by omega), q.cm (o := 1) (by omega)⟩
      have hun : Calls Yba.prog 5 #[.pointer (some ⟨w.heap.size, 0, none⟩)] ((wr.setCell ⟨w.heap.size, 0, none⟩ (.int .i32 9)).setCell ⟨w.heap.size, 1, none⟩ (.int .i32 ((i : Int) * 2))) fun e w' => e = .returned (.tuple #[]) ∧ Qs w.heap.size i i 1 i 0 ((i : Int) * 2 + -1) w w' :=
        unlock_normal ((hQ.setState 9).setWaiters ((i : Int) * 2)) hk0 hk8 (by rw [Below.heap_setCell _ _ _ _ (by simp), Below.heap_setCell _ _ _ _ (by simp)]; exact hch)
      have hus : Calls Yba.prog 5 #[.pointer (some ⟨w.heap.size, 0, none⟩)] ((wr.setCell ⟨w.heap.size, 0, none⟩ (.int .i32 13)).setCell ⟨w.heap.size, 1, none⟩ (.int .i32 ((i : Int) * 2))) fun e w' => e = .returned (.tuple #[]) ∧ Qs w.heap.size i i 1 i (if 1 < i then 13 else 5) ((i : Int) * 2 + -2) w w' :=
        unlock_starving _ ((hQ.setState 13).setWaiters ((i : Int) * 2)) hk0 hk8 (by rw [Below.heap_setCell _ _ _ _ (by simp), Below.heap_setCell _ _ _ _ (by simp)]; exact hch) rfl
      clear hch hH hQ
      have q1 : ((i : Int) * 2 + -1 != ((i : Int) - 1) * 2 + 1) = false := by rw [bne_eq_false_iff_eq]; omega
      have q2 : ((i : Int) * 2 + -2 != ((i : Int) - 1) * 2) = false := by rw [bne_eq_false_iff_eq]; omega
      cases s
      · go_wp2_with (go_at_call 5; refine hun.mono ?_; rintro e w2 ⟨rfl, Q2⟩; obtain ⟨c0, c1⟩ := tl _ _ _ Q2)
        go_loopw [12] (fun c wx => ∃ (j : Nat) (st wt : Int), c = .int .i64 j ∧ 1 ≤ j ∧ j ≤ i ∧ Qs w.heap.size i i j i st wt w wx) (fun c _ => i - (intOf c).toNat)
        case atStart => exact ⟨1, _, _, rfl, by omega, by omega, Q2⟩
        case round =>
          obtain ⟨j, st, wt, rfl, hj1, hj2, hX⟩ := hrel
          clear Q2 c0 c1 hun hus tl
          by_cases hji : j < i
          · have hjl : (j : Int) < (i : Int) := by omega
            have gj : wr.cell? ⟨w.heap.size + 1, j, none⟩ = some (.pointer (some ⟨w.heap.size + 3 + 2 * j, 0, none⟩)) := (hX.ws.cell hji).trans (by rw [if_pos hji]; rfl)
            have hpop : Calls Yba.prog 6 #[.pointer (some ⟨w.heap.size, 2, none⟩)] wr.drew fun e w' => e = .returned (.pointer (some ⟨w.heap.size + 3 + 2 * j, 0, none⟩)) ∧ Qs w.heap.size i i (j + 1) i st wt w w' ∧ w'.cell? ⟨w.heap.size + 1, j, none⟩ = some (.pointer (some ⟨w.heap.size + 3 + 2 * j, 0, none⟩)) := by
              refine (pop_q hX.drew hji (Nat.le_refl _)).mono ?_
              rintro e w' ⟨rfl, q, _⟩
              exact ⟨rfl, q, (q.ws.cell hji).trans (by rw [if_pos hji]; rfl)⟩
            clear hX
            go_wp2_with fail
            go_region_with (go_at_call 6; refine hpop.mono ?_; rintro e w3 ⟨rfl, Q3, g3⟩)
            all_goals
              go_wp2_with fail
              go_roundw
              case rel => first | exact ⟨j + 1, st, wt, by go_num, by omega, by omega, Q3⟩ | ((repeat apply Exists.intro); exact ⟨⟨j + 1, st, wt, by go_num, by omega, by omega, Q3⟩, rfl⟩)
              case measure => simp [intOf]; omega
          · obtain rfl : j = i := by omega
            go_wp2_with (go_at_call 6; refine (pop_end hX).mono ?_; rintro e w' ⟨rfl, rfl⟩)
            go_ret
            exact ⟨rfl, hX.below⟩
      · by_cases h1i : 1 < i
        · rw [if_pos h1i] at hus
          have hd : decide ((1 : Int) < (i : Int)) = true := decide_eq_true (by omega)
          go_wp2_with (go_at_call 5; refine hus.mono ?_; rintro e w2 ⟨rfl, Q2⟩; obtain ⟨c0, c1⟩ := tl _ _ _ Q2)
          go_loopw [12] (fun c wx => ∃ (j : Nat) (st wt : Int), c = .int .i64 j ∧ 1 ≤ j ∧ j ≤ i ∧ Qs w.heap.size i i j i st wt w wx) (fun c _ => i - (intOf c).toNat)
          case atStart => exact ⟨1, _, _, rfl, by omega, by omega, Q2⟩
          case round =>
            obtain ⟨j, st, wt, rfl, hj1, hj2, hX⟩ := hrel
            clear Q2 c0 c1 hun hus tl
            by_cases hji : j < i
            · have hjl : (j : Int) < (i : Int) := by omega
              have gj : wr.cell? ⟨w.heap.size + 1, j, none⟩ = some (.pointer (some ⟨w.heap.size + 3 + 2 * j, 0, none⟩)) := (hX.ws.cell hji).trans (by rw [if_pos hji]; rfl)
              have hpop : Calls Yba.prog 6 #[.pointer (some ⟨w.heap.size, 2, none⟩)] wr.drew fun e w' => e = .returned (.pointer (some ⟨w.heap.size + 3 + 2 * j, 0, none⟩)) ∧ Qs w.heap.size i i (j + 1) i st wt w w' ∧ w'.cell? ⟨w.heap.size + 1, j, none⟩ = some (.pointer (some ⟨w.heap.size + 3 + 2 * j, 0, none⟩)) := by
                refine (pop_q hX.drew hji (Nat.le_refl _)).mono ?_
                rintro e w' ⟨rfl, q, _⟩
                exact ⟨rfl, q, (q.ws.cell hji).trans (by rw [if_pos hji]; rfl)⟩
              clear hX
              go_wp2_with fail
              go_region_with (go_at_call 6; refine hpop.mono ?_; rintro e w3 ⟨rfl, Q3, g3⟩)
              all_goals
                go_wp2_with fail
                go_roundw
                case rel => first | exact ⟨j + 1, st, wt, by go_num, by omega, by omega, Q3⟩ | ((repeat apply Exists.intro); exact ⟨⟨j + 1, st, wt, by go_num, by omega, by omega, Q3⟩, rfl⟩)
                case measure => simp [intOf]; omega
            · obtain rfl : j = i := by omega
              go_wp2_with (go_at_call 6; refine (pop_end hX).mono ?_; rintro e w' ⟨rfl, rfl⟩)
              go_ret
              exact ⟨rfl, hX.below⟩
        · rw [if_neg h1i] at hus
          have hd : decide ((1 : Int) < (i : Int)) = false := decide_eq_false (by omega)
          go_wp2_with (go_at_call 5; refine hus.mono ?_; rintro e w2 ⟨rfl, Q2⟩; obtain ⟨c0, c1⟩ := tl _ _ _ Q2)
          go_loopw [12] (fun c wx => ∃ (j : Nat) (st wt : Int), c = .int .i64 j ∧ 1 ≤ j ∧ j ≤ i ∧ Qs w.heap.size i i j i st wt w wx) (fun c _ => i - (intOf c).toNat)
          case atStart => exact ⟨1, _, _, rfl, by omega, by omega, Q2⟩
          case round =>
            obtain ⟨j, st, wt, rfl, hj1, hj2, hX⟩ := hrel
            clear Q2 c0 c1 hun hus tl
            by_cases hji : j < i
            · exfalso; omega
            · obtain rfl : j = i := by omega
              go_wp2_with (go_at_call 6; refine (pop_end hX).mono ?_; rintro e w' ⟨rfl, rfl⟩)
              go_ret
              exact ⟨rfl, hX.below⟩
end Go.Proofs.Ybulkajys
