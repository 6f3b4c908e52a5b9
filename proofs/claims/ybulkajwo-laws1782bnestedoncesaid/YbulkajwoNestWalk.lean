/-
  Seat b1782a, LawS1782BNestedOnce: the walk of the law itself (function 4).
-/
import Derived.Test.YbulkajwoNestNext
import Derived.Laws.EntriesVeiled
namespace Go.Proofs.Ybulkajwo.NestedOnce
open Go.RowKit

/-- While the handlers are made: 'Pre', and the variable that holds 'Nest'. -/
structure PreN (B Bn Bl n : Nat) (ao : Option Addr) (cap : Nat) (no : Option Addr) (nlen ncap : Nat) (H : Nat → Value) (w0 w : World) (i : Nat) : Prop where
  pre : Pre B Bl n ao cap H w0 w i
  ordn : B < Bn ∧ Bn < Bl
  nest : w.rowIs Bn 22 1 (fun _ => .slice no nlen ncap)

theorem PreN.step {B Bn Bl n : Nat} {ao : Option Addr} {cap : Nat} {no : Option Addr} {nlen ncap : Nat} {H : Nat → Value} {w0 w : World} {i : Nat} (h : PreN B Bn Bl n ao cap no nlen ncap H w0 w i) {v : Value} (hv : v = H i) :
    PreN B Bn Bl n ao cap no nlen ncap H w0 ((w.alloc (.cells #[.int .i64 i] 3)).setCell ⟨Bl + 1, i, none⟩ v) (i + 1) := by
  have o := h.ordn
  exact ⟨h.pre.step hv, h.ordn, (h.nest.alloc _).setOther (by simp; omega) _⟩

theorem PreN.inv {B Bn Bl n : Nat} {ao : Option Addr} {cap : Nat} {no : Option Addr} {nlen ncap : Nat} {H : Nat → Value} {w0 w : World} (h : PreN B Bn Bl n ao cap no nlen ncap H w0 w n) {C : Array Value} (hC : C.size = 24) {idx : Int} {ab : Bool}
    (e1 : C[11]? = some (.slice (some ⟨Bl + 1, 0, none⟩) n n)) (e2 : C[12]? = some (.int .i64 idx)) (e3 : C[13]? = some (.bool ab)) :
    InvN B Bn Bl (Bl + 1) (Bl + 2) w.heap.size n (w.heap.size + 1) ao cap no nlen ncap H w0 (w.alloc (.cells C 59)) [] idx ab :=
  ⟨h.pre.inv hC e1 e2 e3, h.ordn, h.nest.alloc _⟩

theorem PreN.start {n : Nat} {ao : Option Addr} {cap : Nat} {no : Option Addr} {nlen ncap : Nat} (H : Nat → Value) (w : World) :
    PreN w.heap.size (w.heap.size + 1) (w.heap.size + 1 + 1 + 1) n ao cap no nlen ncap H w (((((w.alloc (Obj.cells #[Value.slice ao n cap] 22)).alloc (Obj.cells #[Value.slice no nlen ncap] 22)).alloc (Obj.cells #[] 3)).alloc (Obj.cells #[Value.slice (some { block := w.heap.size + 1 + 1, off := 0 }) 0 0] 23)).alloc (Obj.cells (madeCells #[Value.nilFunc] n) 28)) 0 := by
  refine ⟨⟨by omega, ((((((Below.refl _ _).alloc (Nat.le_refl _) _).alloc (by simp) _).alloc (by simp; omega) _).alloc (by simp; omega) _).alloc (by simp; omega) _), by simp, ?_, ?_, ?_, fun j hj => by omega⟩, by omega, ?_⟩
  · have hr := World.rowIs_alloc w #[.slice ao n cap] 22 (fun _ => .slice ao n cap) (by intro i hi; simp at hi; subst hi; rfl)
    exact (((hr.alloc _).alloc _).alloc _).alloc _
  · refine ⟨{ block := w.heap.size + 1 + 1, off := 0 }, ?_⟩
    have hr := World.rowIs_alloc (((w.alloc (Obj.cells #[Value.slice ao n cap] 22)).alloc (Obj.cells #[Value.slice no nlen ncap] 22)).alloc (Obj.cells #[] 3)) #[Value.slice (some { block := w.heap.size + 1 + 1, off := 0 }) 0 0] 23 (fun _ => Value.slice (some { block := w.heap.size + 1 + 1, off := 0 }) 0 0) (by intro i hi; simp at hi; subst hi; rfl)
    simp only [World.size_alloc] at hr
    exact hr.alloc _
  · have hr := World.rowIs_made ((((w.alloc (Obj.cells #[Value.slice ao n cap] 22)).alloc (Obj.cells #[Value.slice no nlen ncap] 22)).alloc (Obj.cells #[] 3)).alloc (Obj.cells #[Value.slice (some { block := w.heap.size + 1 + 1, off := 0 }) 0 0] 23)) .nilFunc n 28
    simp only [World.size_alloc] at hr
    exact hr.congr fun j _ => by simp
  · have hr := World.rowIs_alloc (w.alloc (Obj.cells #[Value.slice ao n cap] 22)) #[.slice no nlen ncap] 22 (fun _ => .slice no nlen ncap) (by intro i hi; simp at hi; subst hi; rfl)
    simp only [World.size_alloc] at hr
    exact ((hr.alloc _).alloc _).alloc _

set_option maxRecDepth 100000 in
set_option maxHeartbeats 1600000 in
theorem walk_small (A N : Nat → Bool) (n : Nat) (ao : Option Addr) (cap : Nat) (no : Option Addr) (nlen ncap : Nat) (s : Int) (ab : Bool) (w : World) (hA : AbortIs w.heap.size n ao A w) (hN : NestIs w.heap.size nlen no N w)
    (hn : n ≤ 256) (hnl : nlen ≤ 1024) (h0 : 0 ≤ s) (h1 : s ≤ 255) :
    Calls Yba.prog 4 #[.slice ao n cap, .slice no nlen ncap, .int .u8 s, .bool ab] w fun e w' => e = .returned (.bool true) ∧ Below w.heap.size w w' := by
  have hmk := run_make_row' (P := Yba.prog) 25 28 .nilFunc 8 Yba.underlying25 Yba.info28 rfl .i64 .i64 n (by omega) (by omega)
  obtain ⟨i0, hi0⟩ : ∃ i0 : Nat, s % ((n : Int) + 2) = (i0 : Int) := ⟨(s % ((n : Int) + 2)).toNat, by have := Int.emod_nonneg s (show (n : Int) + 2 ≠ 0 by omega); omega⟩
  have hi1 : i0 ≤ n + 1 := by have := Int.emod_lt_of_pos s (show (0 : Int) < (n : Int) + 2 by omega); omega
  have hd1 : decide ((256 : Int) < (n : Int)) = false := decide_eq_false (by omega)
  have hd2 : decide ((1024 : Int) < (nlen : Int)) = false := decide_eq_false (by omega)
  have HP := PreN.start (n := n) (ao := ao) (cap := cap) (no := no) (nlen := nlen) (ncap := ncap) (H10 w.heap.size (w.heap.size + 1) (w.heap.size + 1 + 1 + 1) (w.heap.size + 1 + 1 + 1 + 1 + 1)) w
  go_enter Yba.func4, Yba.ntmps4
  go_wp2_with fail
  go_loopw [13, 14] (fun c _ wr => ∃ i : Nat, c = .int .i64 i ∧ i ≤ n ∧ PreN w.heap.size (w.heap.size + 1) (w.heap.size + 1 + 1 + 1) n ao cap no nlen ncap (H10 w.heap.size (w.heap.size + 1) (w.heap.size + 1 + 1 + 1) (w.heap.size + 1 + 1 + 1 + 1 + 1)) w wr i) (fun c _ _ => n - (intOf c).toNat)
  case atStart => exact ⟨0, rfl, Nat.zero_le _, HP⟩
  case round =>
    obtain ⟨i, rfl, hi, hpre⟩ := hrel
    clear HP
    by_cases hlt : i < n
    · have g1 := (hpre.pre.hand.alloc (Obj.cells #[Value.int IntKind.i64 ↑i] 3)).cell hlt
      have g2 := (hpre.pre.hand.alloc (Obj.cells #[Value.int IntKind.i64 ↑i] 3)).frozen i
      have HS : Hid (wr.heap.size = w.heap.size + 1 + 1 + 1 + 2 + i) := hpre.pre.size
      simp only [Nat.lt_irrefl, if_false] at g1
      go_wp2_with fail
      go_roundw
      case rel => exact ⟨i + 1, by go_num, by omega, hpre.step (by rw [HS.out]; rfl)⟩
      case measure => simp [intOf]; omega
    · obtain rfl : i = n := by omega
      go_wp2_with fail
      have HI := hpre.inv (C := #[Value.pointer none, Value.slice none 0 0, Value.map none, Value.slice none 0 0, Value.nilIface, Value.nilIface, Value.int IntKind.i64 0, Value.int IntKind.i64 0, Value.bool false, Value.pointer none, Value.string { data := #[] }, Value.slice (some { block := w.heap.size + 1 + 1 + 1 + 1, off := 0 }) i i, Value.int IntKind.i64 (↑i0 - 1), Value.bool ab, Value.int IntKind.i32 0, Value.int IntKind.u32 0, Value.int IntKind.u32 0, Value.int IntKind.u32 0, Value.int IntKind.i32 0, Value.int IntKind.i32 0, Value.map none, Value.map none, Value.slice none 0 0, Value.int IntKind.i64 0]) rfl rfl rfl rfl
      have hLen := restL_length A i i0 ab
      refine (next10 A N hA hN hn hnl (i + 1) i0 hi1 (by omega) _ [] ab HI (by simpa using (by omega : (restL A i i0 ab).length ≤ 1000))).mono ?_
      rintro e w1 ⟨rfl, j, hI, hj1, hj2, hj3⟩
      rw [List.nil_append] at hI
      have c1 := hI.inv.cB
      have c2 := hI.inv.c12
      have c3 := hI.inv.c13
      obtain ⟨v, hv, hlog⟩ := hI.inv.log
      obtain ⟨a, c, rfl⟩ := hlog.shape
      have c4 := hv.cell (i := 0) (by omega)
      have hz := hI.inv.below.size
      have hAl := hA.later hI.inv.below hz
      have o := hI.inv.ord
      go_wp2_with fail
      refine (expect_any A i ao cap w1 hAl i0 ab hi1 hn).mono ?_
      rintro e w2 ⟨v2, rfl, hlog2, hb2⟩
      obtain ⟨a2, cc2, rfl⟩ := hlog2.shape
      have hl1 := hlog.below hb2
      have hr := hI.inv.room
      have d2 := (hb2.cell (p := ⟨wr.heap.size, 12, none⟩) (by simp; omega)).trans c2
      have d3 := (hb2.cell (p := ⟨wr.heap.size, 13, none⟩) (by simp; omega)).trans c3
      have d4 := (hb2.cell (p := ⟨w.heap.size + 1 + 1 + 1, 0, none⟩) (by simp; omega)).trans c4
      have hB := hI.inv.below.trans (hb2.mono hz)
      clear hlog hb2 hI hv HI hpre hAl c1 c2 c3 c4 hmk
      generalize restAb A i i0 ab = rb at *
      have hB' : ∀ q, Below w.heap.size w (w2.drewN q) := fun q => ⟨hB.os, hB.tape, hB.output, hB.size, hB.block⟩
      clear hB
      by_cases hij : i ≤ j
      · have hd3 : decide ((i : Int) ≤ (j : Int)) = true := decide_eq_true (by omega)
        cases rb <;>
        · go_wp2_with (go_at_call 9; refine (equal_log hl1 hlog2 (by omega)).mono ?_; rintro e w3 ⟨rfl, q, rfl⟩)
          go_ret
          exact ⟨rfl, hB' _⟩
      · have hd3 : decide ((i : Int) ≤ (j : Int)) = false := decide_eq_false (by omega)
        obtain rfl : rb = true := by rcases hj1 with e | e; exact e; omega
        go_wp2_with fail
        refine (equal_log hl1 hlog2 (by omega)).mono ?_
        rintro e w3 ⟨rfl, q, rfl⟩
        go_wp2_with fail
        refine (equal_log (hl1.drewN q) (hlog2.drewN q) (by omega)).mono ?_
        rintro e w3 ⟨rfl, q2, rfl⟩
        go_wp2_with fail
        go_ret
        exact ⟨rfl, hB' _⟩

theorem walk_great (n : Nat) (ao : Option Addr) (cap : Nat) (no : Option Addr) (nlen ncap : Nat) (s : Int) (ab : Bool) (w : World) (hn : 256 < n) (hm : n ≤ 9223372036854775807) :
    Calls Yba.prog 4 #[.slice ao n cap, .slice no nlen ncap, .int .u8 s, .bool ab] w fun e w' => e = .returned (.bool true) ∧ Below w.heap.size w w' := by
  have hd1 : decide ((256 : Int) < (n : Int)) = true := decide_eq_true (by omega)
  go_enter Yba.func4, Yba.ntmps4
  go_wp2_with fail
  go_ret
  exact ⟨rfl, ((Below.refl _ _).alloc (Nat.le_refl _) _).alloc (by simp) _⟩

theorem walk_wide (n : Nat) (ao : Option Addr) (cap : Nat) (no : Option Addr) (nlen ncap : Nat) (s : Int) (ab : Bool) (w : World) (hn : n ≤ 256) (hnl : 1024 < nlen) (hm : nlen ≤ 9223372036854775807) :
    Calls Yba.prog 4 #[.slice ao n cap, .slice no nlen ncap, .int .u8 s, .bool ab] w fun e w' => e = .returned (.bool true) ∧ Below w.heap.size w w' := by
  have hd1 : decide ((256 : Int) < (n : Int)) = false := decide_eq_false (by omega)
  have hd2 : decide ((1024 : Int) < (nlen : Int)) = true := decide_eq_true (by omega)
  go_enter Yba.func4, Yba.ntmps4
  go_wp2_with fail
  go_ret
  exact ⟨rfl, ((Below.refl _ _).alloc (Nat.le_refl _) _).alloc (by simp) _⟩
end Go.Proofs.Ybulkajwo.NestedOnce
