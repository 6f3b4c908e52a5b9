/-
  Seat b1782a: 'Rows.LawS1782BNestedOnceSaid', proved. The frame is the guide's own (proof-skeleton's, at a slice of bools).
-/
import Derived.Test.YbulkajwoRows
import Derived.WalkKit
import Derived.ProofKit
import Derived.OpenShut
import Derived.ShutString
import Derived.ChangeOld
import Derived.Below
import Derived.Deep.Grids
import Derived.Test.YbulkajwoNestWalk
namespace Go.Proofs.Ybulkajwo.NestedOnce
open Go.ChangeShapes Go.WideShapes Go.ChangeAt Go.RowKit
set_option linter.unusedVariables false

theorem own : ownKnob Yba.prog.godebug = none := by kernel_rfl
theorem laidOut : laidOutB Yba.prog = true := by kernel_rfl

/-- WHAT THE WALK IS TOLD OF THE SLICE OF BOOLS THAT CAME IN. -/
def IsBools (w : World) (a : Option Addr) (len : Nat) (A : Nat → Bool) : Prop :=
  len ≤ 9223372036854775807 ∧ AbortIs w.heap.size len a A w

theorem walk (a0 : Option Addr) (len0 cap0 : Nat) (A : Nat → Bool) (a1 : Option Addr) (len1 cap1 : Nat) (N : Nat → Bool) (a2 : Int) (a3 : Bool) (w : World) (w0 : IsBools w a0 len0 A) (w1 : IsBools w a1 len1 N) (w2 : (Lit.int .u8 a2).wf = true) :
    Calls Yba.prog 4 #[.slice a0 len0 cap0, .slice a1 len1 cap1, .int .u8 a2, .bool a3] w fun e w' => e = .returned (.bool true) ∧ Below w.heap.size w w' := by
  have hb := bounds_u8 w2
  by_cases h : len0 ≤ 256
  · by_cases h' : len1 ≤ 1024
    · refine walk_small A (fun j => if j < len1 then N j else false) len0 a0 cap0 a1 len1 cap1 a2 a3 w w0.2 ⟨fun j hj => if_neg (by omega), fun j hj => ?_⟩ h h' hb.1 hb.2
      simp only [if_pos hj]
      exact w1.2 j hj
    · exact walk_wide len0 a0 cap0 a1 len1 cap1 a2 a3 w h (by omega) w1.1
  · exact walk_great len0 a0 cap0 a1 len1 cap1 a2 a3 w (by omega) w0.1

/-- A slice of bools, read. -/
theorem bools_of {H : Type} {enc : TypeId × Value → H} {W : World} {held : Bool} {a : Option Addr} {len cap : Nat} {d : DataW H} {ps : List MemPlace}
    (h : DataW.Trod enc Yba.prog W 0 (fun _ => true) held 22 (.slice a len cap) d ps) : ∃ A, IsBools W a len A := by
  obtain ⟨fuel, hf⟩ := h
  rcases Go.Deep.open_bools Yba.underlying22 Yba.underlying4 (by kernel_rfl) hf with ⟨hcs, _⟩ | ⟨x, l, c, A, hcs, _, hl, hm, _, hcell⟩
  · simp [Value.cells] at hcs
    obtain ⟨rfl, rfl, rfl⟩ := hcs
    exact ⟨fun _ => false, by omega, fun j hj => by omega⟩
  · simp [Value.cells] at hcs
    obtain ⟨rfl, rfl, rfl⟩ := hcs
    refine ⟨A, by unfold maxLen at hm; omega, fun j hj => ?_⟩
    have hc := hcell j (by omega)
    have hlt := World.block_lt_of_cell? W _ hc
    obtain ⟨b, off, spot⟩ := x
    have hs : spot = none := by simpa [Addr.add] using World.cell?_spot (hcell 0 (by omega))
    subst hs
    rw [add_plain] at hc hlt
    exact ⟨b, off, rfl, hlt, hc⟩

set_option maxRecDepth 100000 in
theorem lifted (os : Os) (started : os.Started) (H : Type) (enc : TypeId × Value → H) :
    ReturnsInHanded {} Yba.checked os 4 .any (Rows.lawS1782BNestedOnceSpec.pre6 enc Yba.prog Yba.f4 Rows.lawS1782BNestedOnceRow.domain false) (Rows.lawS1782BNestedOnceSpec.post enc Yba.prog Yba.f4 false true false false) := by
  refine returnsInHanded_of_change (C := Yba.checked) own started (by kernel_rfl) Yba.func4
    (ChangeSpec.witness6 (enc := enc) (C := Yba.checked) false ⟨#[], #[.slice none 0 0, .slice none 0 0, .int .u8 0, .bool false], []⟩ 8 (by kernel_rfl) (by kernel_rfl) (by kernel_rfl) (by kernel_rfl)) ?_
  intro W base args ds gs before hval0 hW hcnd _
  have hval : ∀ (j : Nat) t v, Yba.f4.params[j]? = some t → args[j]? = some v → Value.okWide Yba.prog W .any base t v := hval0
  have hW' := hW
  obtain ⟨p, q, hA0, hV, rfl, hfz, hnd⟩ := hW
  have hA : DataW.TrodAll enc Yba.prog W 0 (fun _ => true) true Yba.f4.params.toList args.toList ds p := hA0
  rw [Yba.params4] at hA hval
  obtain ⟨v0, vs0, d0, ds0, p0, q0, hargs, rfl, rfl, h0, r0⟩ := trodAll_cons hA
  obtain ⟨v1, vs1, d1, ds1, p1, q1, rfl, rfl, rfl, h1, r1⟩ := trodAll_cons r0
  obtain ⟨v2, vs2, d2, ds2, p2, q2, rfl, rfl, rfl, h2, r2⟩ := trodAll_cons r1
  obtain ⟨v3, vs3, d3, ds3, p3, q3, rfl, rfl, rfl, h3, r3⟩ := trodAll_cons r2
  obtain ⟨rfl, rfl, rfl⟩ := trodAll_nil r3
  obtain rfl : args = #[v0, v1, v2, v3] := by cases args; simp_all
  obtain ⟨rfl, rfl⟩ := trodVars_none hV
  obtain ⟨a0, len0, cap0, rfl⟩ := okWide_slice Yba.underlying22 (hval 0 22 v0 rfl rfl)
  obtain ⟨a1, len1, cap1, rfl⟩ := okWide_slice Yba.underlying22 (hval 1 22 v1 rfl rfl)
  obtain ⟨a2, rfl, rfl, rfl, w2⟩ := open_int Yba.underlying5 (hval 2 5 v2 rfl rfl) h2
  obtain ⟨a3, rfl, rfl, rfl⟩ := open_bool Yba.underlying4 (hval 3 4 v3 rfl rfl) h3
  have lt0 : ∀ x ∈ p0, x.block < W.heap.size := by obtain ⟨m, hm⟩ := h0; exact DataW.trod_lt m _ _ _ hm
  have lt1 : ∀ x ∈ p1, x.block < W.heap.size := by obtain ⟨m, hm⟩ := h1; exact DataW.trod_lt m _ _ _ hm
  obtain ⟨A, w0⟩ := bools_of h0
  obtain ⟨N, w1⟩ := bools_of h1
  clear hA0 hval0
  refine (walk a0 len0 cap0 A a1 len1 cap1 N a2 a3 W w0 w1 w2).mono fun e W' ⟨he, bel⟩ => ?_
  subst he
  exact ⟨_, rfl, _, _, _, [], _, [], hW', trodAll_mk1 (shut_bool Yba.underlying4 _), (trodAll_cons_mk (Below.trod laidOut (by kernel_rfl) (of_decide_eq_true (by kernel_rfl)) h0 bel lt0) (trodAll_cons_mk (Below.trod laidOut (by kernel_rfl) (of_decide_eq_true (by kernel_rfl)) h1 bel lt1) (trodAll_cons_mk (shut_int Yba.underlying5 w2) (trodAll_cons_mk (shut_bool Yba.underlying4 _) trodAll_mk0)))), rfl, bel.frame _, fun h => by cases h⟩

theorem over : Rows.lawS1782BNestedOnceRow.holds Yba.pinned (OpenSpec.ofChange Rows.lawS1782BNestedOnceSpec) :=
  OpenClaim.holds_of_wide 4 Yba.f4 rfl rfl rfl rfl rfl rfl rfl ⟨rfl, rfl, rfl, rfl, rfl⟩ rfl rfl rfl rfl rfl (by kernel_rfl) Yba.func4 (by kernel_rfl)
    (of_decide_eq_true (by kernel_rfl)) (by unfold Func.isWrapper; first | (rw [if_pos (by decide +kernel)]; kernel_rfl) | (rw [if_neg (by decide +kernel)]; exact ⟨rfl, rfl⟩))
    (fun os started H enc _ => lifted os started H enc)

theorem proved : Rows.LawS1782BNestedOnceSaid := over
end Go.Proofs.Ybulkajwo.NestedOnce
