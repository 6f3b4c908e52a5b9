/-
  Seat b1785a, LawS1785CScript: the walk of the law itself (function 3).
-/
import Derived.Test.YbulkajyeScript
import Derived.Deep.RegionWith
import Derived.Deep.QuietTactic
import Derived.BigQuiet
namespace Go.Proofs.Ybulkajye
open Go.RowKit Go.ChangeMaps

theorem Yba.info89 : (Yba.prog.info? 89).map (fun i => (i.zero, i.size, i.bytes)) = some (some (.pointer none), 1, 8) := by kernel_rfl

theorem Scr.start {n : Nat} {q : Int} {K : Nat → ByteArray} {C : Array Value} (w : World) :
    Scr w.heap.size n q K C w (((w.alloc (Obj.map #[] 0)).alloc (Obj.cells C 88)).alloc (Obj.cells (madeCells #[Value.pointer none] n) 89)) 0 [] := by
  refine ⟨(((Below.refl _ _).alloc (Nat.le_refl _) _).alloc (by simp) _).alloc (by simp; omega) _, by simp, ?_, ?_, ?_, by simp, fun j hj => by omega, by simp, by simp⟩
  · show _ = some (Obj.map (ents []) 0)
    rw [Below.heap_alloc _ _ _ (by simp; omega), Below.heap_alloc _ _ _ (by simp)]
    exact heap_alloc_new _ _
  · rw [Below.heap_alloc _ _ _ (by simp)]
    have := heap_alloc_new (w.alloc (Obj.map #[] 0)) (.cells C 88)
    simpa using this
  · have hr := World.rowIs_made ((w.alloc (Obj.map #[] 0)).alloc (Obj.cells C 88)) (.pointer none) n 89
    simp only [World.size_alloc] at hr
    exact hr.congr fun j _ => by simp

set_option maxRecDepth 100000 in
set_option maxHeartbeats 2000000 in
theorem script (n : Nat) (ao : Option Addr) (cap : Nat) (q : Int) (K : Nat → ByteArray) (w : World) (hn : n ≤ 1024) (hK : KeysIs w.heap.size n ao K w) :
    Calls Yba.prog 3 #[.slice ao n cap, .int .i64 q] w fun e w' => e = .returned (.bool true) ∧ Below w.heap.size w w' := by
  have hmm := @run_makeMap Yba.prog
  have hns := neq_same
  have hmk := run_make_row' (P := Yba.prog) 49 89 (.pointer none) 8 Yba.underlying49 Yba.info89 rfl .i64 .i64 n (by omega) (by omega)
  obtain ⟨C, hC1, hC2, hbd⟩ := build_pool q w.heap.size
  have hst := Scr.start (n := n) (q := q) (K := K) (C := C) w
  go_enter Yba.func3, Yba.ntmps3
  go_wp2_with (refine wpList_build_pool rfl _ _ rfl q w.heap.size rfl rfl C hbd ?_)
  go_loopw [7, 8] (fun d c wr => ∃ (i : Nat) (l : List (ByteArray × Value)), c = .int .i64 i ∧ d = .int .i64 (l.length : Nat) ∧ i ≤ n ∧ Scr w.heap.size n q K C w wr i l) (fun _ c _ => n - (intOf c).toNat)
  case atStart => exact ⟨0, [], rfl, rfl, Nat.zero_le _, hst⟩
  case round =>
    obtain ⟨i, l, rfl, rfl, hi, hS⟩ := hrel
    clear hst hbd
    by_cases hlt : i < n
    · obtain ⟨kb, koff, rfl, hkb, hkc⟩ := hK i hlt
      have k1 := (hS.below.cell (p := ⟨kb, koff + i, none⟩) (by exact hkb)).trans hkc
      have c62 := hS.cP hC2
      have c1 := hS.cP hC1
      go_wp2_with fail
      go_loop [10, 11] (fun f c => ∃ j : Nat, c = .int .i64 j ∧ j ≤ i ∧ f = .int .i64 (-1) ∧ Hid (∀ j', j' < j → K j' ≠ K i)) (fun _ c => n - (intOf c).toNat)
      case atStart => exact ⟨0, rfl, Nat.zero_le _, rfl, fun j' h => by omega⟩
      case round =>
        obtain ⟨j, rfl, hj, rfl, hne⟩ := hrel
        by_cases hji : j < i
        · have hkj : wr.cell? ⟨kb, koff + j, none⟩ = some (.string (K j)) := by
            obtain ⟨b2, off2, e, hb2, hc2⟩ := hK j (by omega)
            simp only [Option.some.injEq, Addr.mk.injEq, and_true] at e
            obtain ⟨rfl, rfl⟩ := e
            exact (hS.below.cell (p := ⟨kb, koff + j, none⟩) (by exact hb2)).trans hc2
          by_cases hkk : K j = K i
          · have ht := tl_eq hkk
            obtain ⟨v, hv⟩ := hS.some_of hji hkk
            obtain ⟨g, rfl, hg1, hg2⟩ := hS.state hv
            have S2 := hS.old hv
            have gf := hS.got.frozen i
            have gc := hS.got.cell hlt
            simp only [Nat.lt_irrefl, if_false] at gc
            have c62' := S2.cP hC2
            have gj : (wr.setCell ⟨w.heap.size + 1 + 1, i, none⟩ (.pointer (some ⟨g, 0, none⟩))).cell? ⟨w.heap.size + 1 + 1, j, none⟩ = some (.pointer (some ⟨g, 0, none⟩)) := by
              have := S2.got.cell (i := j) (by omega)
              rw [if_pos (by omega), hkk, hv] at this
              exact this
            have hlook := run_look (K i) S2.map
            rw [hv] at hlook
            simp only [Option.getD_some] at hlook
            have HKK : Hid (K j = K i) := hkk
            clear hkk
            go_wp2_with (go_at_call 5; refine (keyOf_found (w.heap.size + 1) w.heap.size (K i) l _ _ c62 hS.map hv).mono ?_; rintro e w' ⟨rfl, rfl⟩)
            go_roundw
            case rel => exact ⟨i + 1, l, by go_num, rfl, by omega, S2⟩
            case measure => simp [intOf]; omega
          · have ht := tl_ne hkk
            go_wp2_with fail
            go_round
            case rel => exact ⟨j + 1, by go_num, by omega, rfl, fun j' h' => by by_cases e : j' = j; (subst e; exact hkk); exact hne.out j' (by omega)⟩
            case measure => simp [intOf]; omega
        · have hk := hS.none_of (fun j' h' => hne.out j' (by omega))
          have hll := hS.len
          go_wp2_with fail
          refine (keyOf_new (w.heap.size + 1) w.heap.size (K i) q l wr c62 c1 hS.map hk).mono ?_
          rintro e w1 ⟨rfl, h1, h2, h3, h4⟩
          have S2 := hS.new hk h1 h2 h3
          have hzz := hS.size
          have gr := hS.got.of_block (h3.block (w.heap.size + 2) (by omega) (by simp))
          have gf := gr.frozen i
          have gc := gr.cell hlt
          simp only [Nat.lt_irrefl, if_false] at gc
          have hfn := findV_new (Value.pointer (some ⟨wr.heap.size, 0, none⟩)) hk
          obtain ⟨g, he, hg1, hg2⟩ := S2.state hfn
          simp only [Value.pointer.injEq, Option.some.injEq, Addr.mk.injEq, and_true] at he
          subst he
          have hFR := fresh_any wr.heap.size (K i) q _ hg2
          have HLX : Hid (∀ w' : World, Below (w1.setCell { block := w.heap.size + 2, off := i } (Value.pointer (some { block := wr.heap.size, off := 0 }))).heap.size (w1.setCell { block := w.heap.size + 2, off := i } (Value.pointer (some { block := wr.heap.size, off := 0 }))) w' →
              Scr w.heap.size n q K C w w' (i + 1) (l ++ [(K i, Value.pointer (some ⟨wr.heap.size, 0, none⟩))])) := fun w' hb => S2.later hb
          clear h1 h2 h3 h4 gr hg2 S2
          go_wp2_with (go_at_call 6; refine hFR.mono ?_; rintro e w2 ⟨rfl, hB2⟩; have S3 := HLX.out w2 hB2; have c62' := S3.cP hC2; have hlook := run_look (K i) S3.map; rw [hfn] at hlook; simp only [Option.getD_some] at hlook)
          go_roundw
          case rel => exact ⟨i + 1, _, by go_num, by simp, by omega, S3⟩
          case measure => simp [intOf]; omega
    · obtain rfl : i = n := by omega
      have c62 := hS.cP hC2
      have hlen := run_lenk hS.map
      have hll := hS.len
      go_wp2_with fail
      go_loopw [13] (fun c wx => ∃ j : Nat, c = .int .i64 j ∧ j ≤ i ∧ Scr w.heap.size i q K C w wx i l) (fun c _ => i - (intOf c).toNat)
      case atStart => exact ⟨0, rfl, Nat.zero_le _, hS⟩
      case round =>
        obtain ⟨j, rfl, hj, hX⟩ := hrel
        by_cases hji : j < i
        · obtain ⟨kb, koff, rfl, hkb, hkc⟩ := hK j hji
          have k1 := (hX.below.cell (p := ⟨kb, koff + j, none⟩) (by exact hkb)).trans hkc
          obtain ⟨v, hv⟩ := Option.isSome_iff_exists.1 (hX.has j hji)
          obtain ⟨g, rfl, hg1, hg2⟩ := hX.state hv
          have gj := hX.got.cell hji
          simp only [if_pos hji, hv, Option.getD_some] at gj
          have gj' : wr.cell? ⟨w.heap.size + 1 + 1, j, none⟩ = some (.pointer (some ⟨g, 0, none⟩)) := gj
          have hFR : Calls Yba.prog 6 #[.pointer (some ⟨g, 0, none⟩), .string (K j), .int .i64 q] wr.drew fun e w' => e = .returned (.bool true) ∧ Below wr.heap.size wr w' := (fresh_any g (K j) q wr.drew hg2).mono fun e w' h => ⟨h.1, ⟨h.2.os, h.2.tape, h.2.output, h.2.size, h.2.block⟩⟩
          have hjl : (j : Int) < (i : Int) := by omega
          have HXL : Hid (∀ w', Below wr.heap.size wr w' → Scr w.heap.size i q K C w w' i l) := fun w' hb => hX.later hb
          clear hg2 hC1 hC2 hlen c62 hmm hmk hS hX
          go_wp2_with fail
          go_region_with (go_at_call 6; refine hFR.mono ?_; rintro e w2 ⟨rfl, hB2⟩; have hX2 := HXL.out w2 hB2; clear hB2)
          all_goals
            go_wp2_with fail
            go_roundw
            case rel => exact ⟨j + 1, by go_num, by omega, hX2⟩
            case measure => simp [intOf]; omega
        · go_wp2_with fail
          go_ret
          exact ⟨rfl, hX.below⟩

theorem script_great (n : Nat) (ao : Option Addr) (cap : Nat) (q : Int) (w : World) (hn : 1024 < n) (hm : n ≤ 9223372036854775807) :
    Calls Yba.prog 3 #[.slice ao n cap, .int .i64 q] w fun e w' => e = .returned (.bool true) ∧ Below w.heap.size w w' := by
  go_enter Yba.func3, Yba.ntmps3
  go_wp2_with fail
  go_ret
  exact ⟨rfl, Below.refl _ _⟩
end Go.Proofs.Ybulkajye
