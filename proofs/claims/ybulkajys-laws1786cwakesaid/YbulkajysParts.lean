/-
  Seat b1786a: the atomic words, one goroutine; LoadUnlocked32, stateOutsideQueue, Pop of an empty queue, unlockSlow where no wake is due.
-/
import Derived.Test.YbulkajysProg
import Derived.WalkKit
import Derived.Laws.LoneSync
import Derived.Deep.OwnRows
import Derived.Deep.Draws
namespace Go.Proofs.Ybulkajys
open Go.RowKit

theorem load_at {a : Addr} {x : Int} {w : World} (hc : w.cell? a = some (.int .i32 x)) : (callFunc 18 #[.pointer (some a)]).run Yba.prog w = .ok (.value (.int .i32 x)) w :=
  run_call_load (P := Yba.prog) Yba.func18 (by kernel_rfl) (by kernel_rfl) (by kernel_rfl) .i32 (by kernel_rfl) hc
theorem store_at {a : Addr} {y : Int} {u : Value} {w : World} (hc : w.cell? a = some u) (hz : w.frozen? a = false) : (callFunc 17 #[.pointer (some a), .int .i32 y]).run Yba.prog w = .ok (.value (.tuple #[])) (w.setCell a (.int .i32 y)) :=
  run_call_store (P := Yba.prog) Yba.func17 (by kernel_rfl) (by kernel_rfl) (by kernel_rfl) (by kernel_rfl) hc hz
theorem cas_at {a : Addr} {x : Int} (y : Int) {w : World} (hc : w.cell? a = some (.int .i32 x)) (hz : w.frozen? a = false) : (callFunc 10 #[.pointer (some a), .int .i32 x, .int .i32 y]).run Yba.prog w = .ok (.value (.bool true)) (w.setCell a (.int .i32 y)) :=
  run_call_cas_hit (P := Yba.prog) Yba.func10 (by kernel_rfl) (by kernel_rfl) (by kernel_rfl) .i32 (by kernel_rfl) hc hz
theorem add_at {a : Addr} {x y s : Int} {w : World} (hc : w.cell? a = some (.int .i32 x)) (hz : w.frozen? a = false) (hs : (Op.intArith .add .i32 x y).run Yba.prog w = .ok (.int .i32 s) w) :
    (callFunc 12 #[.pointer (some a), .int .i32 y]).run Yba.prog w = .ok (.value (.int .i32 s)) (w.setCell a (.int .i32 s)) :=
  run_call_add (P := Yba.prog) Yba.func12 (by kernel_rfl) (by kernel_rfl) (by kernel_rfl) .i32 (by kernel_rfl) hc hz hs

theorem loadUnlocked (a : Addr) (x : Int) (w : World) (hc : w.cell? a = some (.int .i32 x)) (hx : (bits .and .i32 x 2 == 0) = true) :
    Calls Yba.prog 16 #[.pointer (some a), .int .i32 2] w fun e w' => e = .returned (.int .i32 x) ∧ w' = w := by
  have hl := load_at hc
  go_enter Yba.func16, Yba.ntmps16
  go_wp2
  refine wp_loop_rounds 1 ?_
  rw [rounds_succ]
  go_wp2
  go_ret
  exact ⟨rfl, rfl⟩
theorem outside (b : Nat) (x : Int) (w : World) (hc : w.cell? ⟨b, 0, none⟩ = some (.int .i32 x)) (hx : (bits .and .i32 x 2 == 0) = true) :
    Calls Yba.prog 9 #[.pointer (some ⟨b, 0, none⟩)] w fun e w' => e = .returned (.int .i32 x) ∧ w' = w := by
  go_enter Yba.func9, Yba.ntmps9
  go_wp2_with (go_at_call 16; refine (loadUnlocked _ x _ hc hx).mono ?_; rintro e w' ⟨rfl, rfl⟩)
  go_ret
  exact ⟨rfl, rfl⟩
theorem pop_none (b : Nat) (w : World) (hc : w.cell? ⟨b, 2, none⟩ = some (.pointer none)) :
    Calls Yba.prog 6 #[.pointer (some ⟨b, 2, none⟩)] w fun e w' => e = .returned (.pointer none) ∧ w' = w := by
  go_enter Yba.func6, Yba.ntmps6
  go_wp2
  go_ret
  exact ⟨rfl, rfl⟩
/-- No wake is due: the lock's bit is cleared, no more. -/
theorem unlock_free (b : Nat) (x y : Int) (w : World) (hc : w.cell? ⟨b, 0, none⟩ = some (.int .i32 x)) (hf : w.frozen? ⟨b, 0, none⟩ = false) (hx : (bits .and .i32 x 2 == 0) = true) (h1 : (bits .and .i32 x 1 == 0) = false) (h8 : (bits .and .i32 x 8 == 0) = true)
    (hy : bits .andNot .i32 x 1 = y) :
    Calls Yba.prog 5 #[.pointer (some ⟨b, 0, none⟩)] w fun e w' => e = .returned (.tuple #[]) ∧ w' = w.setCell ⟨b, 0, none⟩ (.int .i32 y) := by
  have hcas := cas_at y hc hf
  go_enter Yba.func5, Yba.ntmps5
  go_wp2_with fail
  refine wp_loop_rounds 1 ?_
  rw [rounds_succ]
  go_wp2_with (go_at_call 9; refine (outside b x _ hc hx).mono ?_; rintro e w' ⟨rfl, rfl⟩)
  exact bodyPost_ret (results_none rfl _ _ _) rfl ⟨rfl, rfl⟩

end Go.Proofs.Ybulkajys
