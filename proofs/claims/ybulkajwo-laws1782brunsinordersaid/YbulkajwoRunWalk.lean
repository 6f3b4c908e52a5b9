/-
  Seat b1782a, LawS1782BRunsInOrder: the walk of the law itself (function 3).
-/
import Derived.Test.YbulkajwoRun
import Derived.Laws.EntriesVeiled
namespace Go.Proofs.Ybulkajwo.RunsInOrder
open Go.RowKit

theorem Pre.start {B n : Nat} {ao : Option Addr} {cap : Nat} (H : Nat → Value) (w : World) (hB : B = w.heap.size) :
    Pre B (w.heap.size + 1 + 1) n ao cap H w ((((w.alloc (Obj.cells #[Value.slice ao n cap] 22)).alloc (Obj.cells #[] 3)).alloc (Obj.cells #[Value.slice (some { block := w.heap.size + 1, off := 0 }) 0 0] 23)).alloc (Obj.cells (madeCells #[Value.nilFunc] n) 28)) 0 := by
  subst hB
  refine ⟨by omega, (((((Below.refl _ _).alloc (Nat.le_refl _) _).alloc (by simp) _).alloc (by simp; omega) _).alloc (by simp; omega) _), by simp, ?_, ?_, ?_, fun j hj => by omega⟩
  · have hr := World.rowIs_alloc w #[.slice ao n cap] 22 (fun _ => .slice ao n cap) (by intro i hi; simp at hi; subst hi; rfl)
    exact ((hr.alloc _).alloc _).alloc _
  · refine ⟨{ block := w.heap.size + 1, off := 0 }, ?_⟩
    have hr := World.rowIs_alloc ((w.alloc (Obj.cells #[Value.slice ao n cap] 22)).alloc (Obj.cells #[] 3)) #[Value.slice (some { block := w.heap.size + 1, off := 0 }) 0 0] 23 (fun _ => Value.slice (some { block := w.heap.size + 1, off := 0 }) 0 0) (by intro i hi; simp at hi; subst hi; rfl)
    simp only [World.size_alloc] at hr
    exact hr.alloc _
  · have hr := World.rowIs_made (((w.alloc (Obj.cells #[Value.slice ao n cap] 22)).alloc (Obj.cells #[] 3)).alloc (Obj.cells #[Value.slice (some { block := w.heap.size + 1, off := 0 }) 0 0] 23)) .nilFunc n 28
    simp only [World.size_alloc] at hr
    exact hr.congr fun j _ => by simp

set_option maxRecDepth 100000 in
set_option maxHeartbeats 1000000 in
theorem walk_small (A : Nat → Bool) (n : Nat) (ao : Option Addr) (cap : Nat) (s : Int) (ab : Bool) (w : World) (hA : AbortIs w.heap.size n ao A w) (hn : n ≤ 256) (h0 : 0 ≤ s) (h1 : s ≤ 255) :
    Calls Yba.prog 3 #[.slice ao n cap, .int .u8 s, .bool ab] w fun e w' => e = .returned (.bool true) ∧ Below w.heap.size w w' := by
  have hmk := run_make_row' (P := Yba.prog) 25 28 .nilFunc 8 Yba.underlying25 Yba.info28 rfl .i64 .i64 n (by omega) (by omega)
  obtain ⟨i0, hi0⟩ : ∃ i0 : Nat, s % ((n : Int) + 2) = (i0 : Int) := ⟨(s % ((n : Int) + 2)).toNat, by have := Int.emod_nonneg s (show (n : Int) + 2 ≠ 0 by omega); omega⟩
  have hi1 : i0 ≤ n + 1 := by have := Int.emod_lt_of_pos s (show (0 : Int) < (n : Int) + 2 by omega); omega
  have HP := Pre.start (n := n) (ao := ao) (cap := cap) (H5 w.heap.size (w.heap.size + 1 + 1) (w.heap.size + 1 + 1 + 1 + 1)) w rfl
  go_enter Yba.func3, Yba.ntmps3
  go_wp2_with fail
  go_loopw [11, 12] (fun c _ wr => ∃ i : Nat, c = .int .i64 i ∧ i ≤ n ∧ Pre w.heap.size (w.heap.size + 1 + 1) n ao cap (H5 w.heap.size (w.heap.size + 1 + 1) (w.heap.size + 1 + 1 + 1 + 1)) w wr i) (fun c _ _ => n - (intOf c).toNat)
  case atStart => exact ⟨0, rfl, Nat.zero_le _, HP⟩
  case round =>
    obtain ⟨i, rfl, hi, hpre⟩ := hrel
    clear HP
    by_cases hlt : i < n
    · have g1 := (hpre.hand.alloc (Obj.cells #[Value.int IntKind.i64 ↑i] 3)).cell hlt
      have g2 := (hpre.hand.alloc (Obj.cells #[Value.int IntKind.i64 ↑i] 3)).frozen i
      have HS : Hid (wr.heap.size = w.heap.size + 1 + 1 + 2 + i) := hpre.size
      simp only [Nat.lt_irrefl, if_false] at g1
      go_wp2_with fail
      go_roundw
      case rel => exact ⟨i + 1, by go_num, by omega, hpre.step (by rw [HS.out]; rfl)⟩
      case measure => simp [intOf]; omega
    · obtain rfl : i = n := by omega
      go_wp2_with fail
      have HI := hpre.inv (C := #[Value.pointer none, Value.slice none 0 0, Value.map none, Value.slice none 0 0, Value.nilIface, Value.nilIface, Value.int IntKind.i64 0, Value.int IntKind.i64 0, Value.bool false, Value.pointer none, Value.string { data := #[] }, Value.slice (some { block := w.heap.size + 1 + 1 + 1, off := 0 }) i i, Value.int IntKind.i64 (↑i0 - 1), Value.bool ab, Value.int IntKind.i32 0, Value.int IntKind.u32 0, Value.int IntKind.u32 0, Value.int IntKind.u32 0, Value.int IntKind.i32 0, Value.int IntKind.i32 0, Value.map none, Value.map none, Value.slice none 0 0, Value.int IntKind.i64 0]) rfl rfl rfl rfl
      refine (next5 A hA i0 HI hi1 hn).mono ?_
      rintro e w1 ⟨rfl, hI⟩
      have c1 := hI.cB
      have c2 := hI.c12
      have c3 := hI.c13
      obtain ⟨v, hv, hlog⟩ := hI.log
      obtain ⟨a, c, rfl⟩ := hlog.shape
      have c4 := hv.cell (i := 0) (by omega)
      have hz := hI.below.size
      have hAl := hA.later hI.below hz
      have o := hI.ord
      go_wp2_with fail
      refine (expect_any A i ao cap w1 hAl i0 ab hi1 hn).mono ?_
      rintro e w2 ⟨v2, rfl, hlog2, hb2⟩
      obtain ⟨a2, cc2, rfl⟩ := hlog2.shape
      have hl1 := hlog.below hb2
      have hr := hI.room
      have d2 := (hb2.cell (p := ⟨wr.heap.size, 12, none⟩) (by simp; omega)).trans c2
      have d3 := (hb2.cell (p := ⟨wr.heap.size, 13, none⟩) (by simp; omega)).trans c3
      have d4 := (hb2.cell (p := ⟨w.heap.size + 1 + 1, 0, none⟩) (by simp; omega)).trans c4
      have hB := hI.below.trans (hb2.mono hz)
      have hLen := restL_length A i i0 ab
      clear hlog hb2 hI hv HI hpre hAl c1 c2 c3 c4 hmk
      go_wp2_with fail
      refine (equal_log hl1 hlog2 (by omega)).mono ?_
      rintro e w3 ⟨rfl, q, rfl⟩
      clear hl1 hlog2
      go_wp2_with fail
      go_ret
      exact ⟨by simp, ⟨hB.os, hB.tape, hB.output, hB.size, hB.block⟩⟩

theorem walk_great (n : Nat) (ao : Option Addr) (cap : Nat) (s : Int) (ab : Bool) (w : World) (hn : 256 < n) (hm : n ≤ 9223372036854775807) :
    Calls Yba.prog 3 #[.slice ao n cap, .int .u8 s, .bool ab] w fun e w' => e = .returned (.bool true) ∧ Below w.heap.size w w' := by
  go_enter Yba.func3, Yba.ntmps3
  go_wp2_with fail
  go_ret
  exact ⟨rfl, (Below.refl _ _).alloc (Nat.le_refl _) _⟩
end Go.Proofs.Ybulkajwo.RunsInOrder
