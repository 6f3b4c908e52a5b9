/-
  Seat b1783a: the four callees by their contracts: littleEndian.Uint32, zzs1783cwant, recordLen, zzs1783cheader.
-/
import Derived.Test.YbulkajxcProg
import Derived.WalkKit
import Derived.Lib.EndianBits
import Derived.Deep.QuietTactic
import Derived.BigQuiet
import Derived.Laws.AppendOwnNone
namespace Go.Proofs.Ybulkajxc
open Go.RowKit

theorem Yba.info5 : (Yba.prog.info? 5).map (fun i => (i.zero, i.size, i.bytes)) = some (some (.int .u8 0), 1, 1) := by kernel_rfl

set_option maxHeartbeats 1000000 in
set_option maxRecDepth 100000 in
theorem uint32_any (g n c : Nat) (b0 b1 b2 b3 : Int) (w : World) (hn : 4 ≤ n) (hn2 : n ≤ 100000)
    (h0 : 0 ≤ b0 ∧ b0 ≤ 255) (h1 : 0 ≤ b1 ∧ b1 ≤ 255) (h2 : 0 ≤ b2 ∧ b2 ≤ 255) (h3 : 0 ≤ b3 ∧ b3 ≤ 255)
    (c0 : w.cell? ⟨g, 0, none⟩ = some (.int .u8 b0)) (c1 : w.cell? ⟨g, 1, none⟩ = some (.int .u8 b1)) (c2 : w.cell? ⟨g, 2, none⟩ = some (.int .u8 b2)) (c3 : w.cell? ⟨g, 3, none⟩ = some (.int .u8 b3)) :
    Calls Yba.prog 8 #[.agg #[], .slice (some ⟨g, 0, none⟩) n c] w fun e w' => e = .returned (.int .u32 (b0 + b1 * 256 + b2 * 65536 + b3 * 16777216)) ∧ Below w.heap.size w w' := by
  have hg : g < w.heap.size := World.block_lt_of_cell? w _ c0
  have l0 : (0 : Int) < (n : Int) := by omega
  have l1 : (1 : Int) < (n : Int) := by omega
  have l2 : (2 : Int) < (n : Int) := by omega
  have l3 : (3 : Int) < (n : Int) := by omega
  go_enter Yba.func8, Yba.ntmps8
  go_wp2
  go_quiet (fail)
  go_wp2
  go_ret
  refine ⟨?_, ?_⟩
  · simp (disch := omega) only [u32_or8, u32_or16, u32_or24]
    rfl
  · have hB := (Below.refl w.heap.size w).alloc (Nat.le_refl _) (Obj.cells #[] 33)
    exact ⟨hB.os, hB.tape, hB.output, hB.size, hB.block⟩

/-- May a record of that length follow? -/
def okB (l r : Int) : Bool := decide (1 ≤ l ∧ l ≤ 67108864 ∧ l ≤ r)
def lenI (l r : Int) : Int := if 1 ≤ l ∧ l ≤ 67108864 ∧ l ≤ r then l else 0
theorem ok_yes {l r : Int} (h : 1 ≤ l ∧ l ≤ 67108864 ∧ l ≤ r) : Value.tuple #[.int .i64 l, .bool true] = .tuple #[.int .i64 (lenI l r), .bool (okB l r)] := by simp [okB, lenI, h]
theorem ok_no {l r : Int} (h : ¬ (1 ≤ l ∧ l ≤ 67108864 ∧ l ≤ r)) : Value.tuple #[.int .i64 0, .bool false] = .tuple #[.int .i64 (lenI l r), .bool (okB l r)] := by simp [okB, lenI, h]

theorem want_any (l r : Int) (w : World) (h0 : 0 ≤ l) (h1 : l ≤ 4294967295) :
    Calls Yba.prog 7 #[.int .u32 l, .int .i64 r] w fun e w' => e = .returned (.tuple #[.int .i64 (lenI l r), .bool (okB l r)]) ∧ w' = w := by
  by_cases k1 : 1 ≤ l
  · have d1 : decide (1 ≤ l) = true := decide_eq_true k1
    by_cases k2 : l ≤ 67108864
    · have d2 : decide (l ≤ 67108864) = true := decide_eq_true k2
      by_cases k3 : l ≤ r
      · have d3 : decide (l ≤ r) = true := decide_eq_true k3
        go_enter Yba.func7, Yba.ntmps7
        go_wp2
        go_ret2
        exact ⟨congrArg Ending.returned (ok_yes ⟨k1, k2, k3⟩), rfl⟩
      · have d3 : decide (l ≤ r) = false := decide_eq_false k3
        go_enter Yba.func7, Yba.ntmps7
        go_wp2
        go_ret2
        exact ⟨congrArg Ending.returned (ok_no (by omega)), rfl⟩
    · have d2 : decide (l ≤ 67108864) = false := decide_eq_false k2
      go_enter Yba.func7, Yba.ntmps7
      go_wp2
      go_ret2
      exact ⟨congrArg Ending.returned (ok_no (by omega)), rfl⟩
  · have d1 : decide (1 ≤ l) = false := decide_eq_false k1
    go_enter Yba.func7, Yba.ntmps7
    go_wp2
    go_ret2
    exact ⟨congrArg Ending.returned (ok_no (by omega)), rfl⟩

/-- What zzs1783cheader hands back: a slice of the call's own whose first four bytes spell l. -/
def IsHeader (w : World) (v : Value) (l : Int) : Prop :=
  ∃ (g n c : Nat) (b0 b1 b2 b3 : Int), v = .slice (some ⟨g, 0, none⟩) n c ∧ 4 ≤ n ∧ n ≤ 100000 ∧ (0 ≤ b0 ∧ b0 ≤ 255) ∧ (0 ≤ b1 ∧ b1 ≤ 255) ∧ (0 ≤ b2 ∧ b2 ≤ 255) ∧ (0 ≤ b3 ∧ b3 ≤ 255) ∧
    w.cell? ⟨g, 0, none⟩ = some (.int .u8 b0) ∧ w.cell? ⟨g, 1, none⟩ = some (.int .u8 b1) ∧ w.cell? ⟨g, 2, none⟩ = some (.int .u8 b2) ∧ w.cell? ⟨g, 3, none⟩ = some (.int .u8 b3) ∧
    b0 + b1 * 256 + b2 * 65536 + b3 * 16777216 = l

theorem rec_any (l r : Int) (v : Value) (w : World) (h0 : 0 ≤ l) (h1 : l ≤ 4294967295) (hv : IsHeader w v l) :
    Calls Yba.prog 6 #[v, .int .i64 r] w fun e w' => e = .returned (.tuple #[.int .i64 (lenI l r), .bool (okB l r)]) ∧ Below w.heap.size w w' := by
  obtain ⟨g, n, c, b0, b1, b2, b3, rfl, hn, hn2, g0, g1, g2, g3, c0, c1, c2, c3, hl⟩ := hv
  have hu : Calls Yba.prog 8 #[.agg #[], .slice (some ⟨g, 0, none⟩) n c] w fun e w' => e = .returned (.int .u32 l) ∧ Below w.heap.size w w' := by
    have := uint32_any g n c b0 b1 b2 b3 w hn hn2 g0 g1 g2 g3 c0 c1 c2 c3
    rwa [hl] at this
  clear c0 c1 c2 c3 hl g0 g1 g2 g3
  by_cases k1 : l = 0
  · have d1 : (l == 0) = true := by simp [k1]
    have n1 : Hid (¬ (1 ≤ l ∧ l ≤ 67108864 ∧ l ≤ r)) := show ¬ _ by omega
    clear k1
    go_enter Yba.func6, Yba.ntmps6
    go_wp2_with (go_at_call 8; refine hu.mono ?_; rintro e w' ⟨rfl, hB⟩)
    go_ret2
    exact ⟨congrArg Ending.returned (ok_no n1.out), hB⟩
  have d1 : (l == 0) = false := by simp [k1]
  by_cases k2 : 67108864 < l
  · have d2 : decide (67108864 < l) = true := decide_eq_true k2
    have n1 : Hid (¬ (1 ≤ l ∧ l ≤ 67108864 ∧ l ≤ r)) := show ¬ _ by omega
    go_enter Yba.func6, Yba.ntmps6
    go_wp2_with (go_at_call 8; refine hu.mono ?_; rintro e w' ⟨rfl, hB⟩)
    go_ret2
    exact ⟨congrArg Ending.returned (ok_no n1.out), hB⟩
  have d2 : decide (67108864 < l) = false := decide_eq_false k2
  by_cases k3 : r < l
  · have d3 : decide (r < l) = true := decide_eq_true k3
    have n1 : Hid (¬ (1 ≤ l ∧ l ≤ 67108864 ∧ l ≤ r)) := show ¬ _ by omega
    go_enter Yba.func6, Yba.ntmps6
    go_wp2_with (go_at_call 8; refine hu.mono ?_; rintro e w' ⟨rfl, hB⟩)
    go_ret2
    exact ⟨congrArg Ending.returned (ok_no n1.out), hB⟩
  have d3 : decide (r < l) = false := decide_eq_false k3
  have n1 : Hid (1 ≤ l ∧ l ≤ 67108864 ∧ l ≤ r) := show _ ∧ _ by omega
  go_enter Yba.func6, Yba.ntmps6
  go_wp2_with (go_at_call 8; refine hu.mono ?_; rintro e w' ⟨rfl, hB⟩)
  go_ret2
  exact ⟨congrArg Ending.returned (ok_yes n1.out), hB⟩

/-- The tail that came in: nil, or a row whose first 'len' cells are zs. -/
def IsTail (w : World) (a : Option Addr) (len cap : Nat) (zs : List Int) : Prop :=
  zs.length = len ∧ ((a = none ∧ len = 0 ∧ cap = 0) ∨ ∃ x, a = some x ∧ ∀ i, i < len → w.cell? (x.add i) = some (.int .u8 (zs.getD i 0)))

theorem header_of {w : World} {base m : Nat} {v : Value} {l : Int} {xs : List Value} (h0 : 0 ≤ l) (h1 : l ≤ 4294967295) (hm : m ≤ 1024)
    (h : w.ownsRow base 5 1 v (4 + m) ([Value.int .u8 (l % 256), .int .u8 (l / 256 % 256), .int .u8 (l / 65536 % 256), .int .u8 (l / 16777216)] ++ xs)) : IsHeader w v l := by
  obtain ⟨e1, ⟨_, e2⟩ | ⟨g, cap, cur, rfl, r⟩⟩ := id h
  · omega
  have key : ∀ i u, ([Value.int .u8 (l % 256), .int .u8 (l / 256 % 256), .int .u8 (l / 65536 % 256), .int .u8 (l / 16777216)] ++ xs)[i]? = some u → w.cell? ⟨g, i, none⟩ = some u := by
    intro i u hu
    have := h.cells (g := g) rfl i u hu
    have e : (⟨g, 0, none⟩ : Addr).add i = ⟨g, i, none⟩ := by unfold Addr.add; split <;> simp_all
    rwa [e] at this
  exact ⟨g, 4 + m, cap, _, _, _, _, rfl, by omega, by omega, by omega, by omega, by omega, by omega, key 0 _ rfl, key 1 _ rfl, key 2 _ rfl, key 3 _ rfl, by omega⟩

set_option maxHeartbeats 400000 in
theorem header_any (l : Int) (a : Option Addr) (len cap : Nat) (zs : List Int) (w : World) (h0 : 0 ≤ l) (h1 : l ≤ 4294967295) (hlen : len ≤ 1024) (ht : IsTail w a len cap zs) :
    Calls Yba.prog 5 #[.int .u32 l, .slice a len cap] w fun e w' => ∃ v, e = .returned v ∧ IsHeader w' v l ∧ Below w.heap.size w w' := by
  obtain ⟨i0, hi, hz0, hz1, hz2⟩ := info_parts Yba.info5
  have hown : (w.alloc (Obj.cells #[Value.int .u8 (l % 256), .int .u8 (l / 256 % 256), .int .u8 (l / 65536 % 256), .int .u8 (l / 16777216)] 5)).ownsRow w.heap.size 5 1 (.slice (some ⟨w.heap.size, 0, none⟩) 4 4) 4
      [Value.int .u8 (l % 256), .int .u8 (l / 256 % 256), .int .u8 (l / 65536 % 256), .int .u8 (l / 16777216)] :=
    ⟨rfl, .inr ⟨w.heap.size, 4, _, rfl, Nat.le_refl _, heap_alloc_new _ _, by omega, by unfold maxLen; omega, rfl, rfl⟩⟩
  have HB : Below w.heap.size w (w.alloc (Obj.cells #[Value.int .u8 (l % 256), .int .u8 (l / 256 % 256), .int .u8 (l / 65536 % 256), .int .u8 (l / 16777216)] 5)) := (Below.refl _ _).alloc (Nat.le_refl _) _
  obtain ⟨hzl, ⟨rfl, rfl, rfl⟩ | ⟨x, rfl, hc⟩⟩ := ht
  · go_enter Yba.func5, Yba.ntmps5
    go_wp2
    go_ret
    exact ⟨_, rfl, header_of (m := 0) h0 h1 (by omega) (by rw [List.append_nil]; exact hown), HB⟩
  · have hnews : ∀ j u, (zs.map (Value.int .u8))[j]? = some u → (w.alloc (Obj.cells #[Value.int .u8 (l % 256), .int .u8 (l / 256 % 256), .int .u8 (l / 65536 % 256), .int .u8 (l / 16777216)] 5)).cell? (x.add j) = some u := by
      intro j u hj
      rw [List.getElem?_map] at hj
      obtain ⟨z, hz, rfl⟩ := Option.map_eq_some_iff.1 hj
      have hlt : j < zs.length := (List.getElem?_eq_some_iff.1 hz).1
      have hcj := hc j (by omega)
      have hgd : zs.getD j 0 = z := by simp [hz]
      rw [hgd] at hcj
      rw [HB.cell (World.block_lt_of_cell? w _ hcj)]
      exact hcj
    have h1c : ∀ u ∈ zs.map (Value.int .u8), u.oneCell' = true := by
      intro u hu
      obtain ⟨z, _, rfl⟩ := List.mem_map.1 hu
      rfl
    have hnl : (zs.map (Value.int .u8)).length = len * 1 := by simp [hzl]
    have HN : Hid _ := hnews
    clear hnews hc
    go_enter Yba.func5, Yba.ntmps5
    go_wp2_with (at_builtin; refine wpList_append_own _ rfl _ _ 23 rfl w.heap.size 5 i0 (.int .u8 0) 1 1 Yba.underlying23 hi hz0 hz1 hz2 rfl (by decide) _ 4 _ rfl hown x len cap (zs.map (Value.int .u8)) rfl hnl HN.out h1c ?c1 ?c2 ?c3 ?_)
    case c1 => unfold maxLen; omega
    case c2 => omega
    case c3 => simp
    intro v' w1 hown' hgrow _
    have R : Hid (IsHeader w1 v' l ∧ Below w.heap.size w w1) := ⟨header_of h0 h1 hlen hown', HB.grown hgrow (by simp) (by intro k hk; simp [Value.ownBlock] at hk; omega)⟩
    clear hown hown' hgrow HB
    go_wp2
    go_ret
    exact ⟨_, rfl, R.out⟩
end Go.Proofs.Ybulkajxc
