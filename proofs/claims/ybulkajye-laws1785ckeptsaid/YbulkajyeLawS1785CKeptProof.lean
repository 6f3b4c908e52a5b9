/-
  Seat b1785a: 'Rows.LawS1785CKeptSaid', proved. The frame is the shell's, turned to 'Below' (the walk writes into blocks of its own).
-/
import Derived.Test.YbulkajyeRows
import Derived.WalkKit
import Derived.ProofKit
import Derived.OpenShut
import Derived.ShutString
import Derived.ChangeOld
import Derived.Below
import Derived.Test.YbulkajyeParts
namespace Go.Proofs.Ybulkajye.lawS1785CKept
open Go.ChangeShapes Go.WideShapes Go.ChangeAt Go.RowKit
open Go.ChangeMaps (open_string shut_string)
set_option linter.unusedVariables false

theorem own : ownKnob Yba.prog.godebug = none := by kernel_rfl

/-! ### THE WALK -/
set_option maxRecDepth 100000 in
set_option maxHeartbeats 1000000 in
theorem walk (a0 : ByteArray) (a1 : Int) (a2 : Int) (a3 : Int) (a4 : Int) (w : World) :
    Calls Yba.prog 4 #[.string a0, .int .i64 a1, .int .i64 a2, .int .i64 a3, .int .i64 a4] w fun e w' => e = .returned (.bool true) ∧ Below w.heap.size w w' := by
  have hmm := @run_makeMap Yba.prog
  have hns := neq_same
  obtain ⟨C, hC1, hC2, hbd⟩ := build_pool a4 w.heap.size
  obtain ⟨KS, hKS⟩ : ∃ KS : Array Value, KS = #[Value.string a0, Value.int IntKind.i64 a1, Value.slice none 0 0, Value.int IntKind.i64 0, Value.int IntKind.i64 0, Value.int IntKind.i64 0, Value.slice none 0 0, Value.int IntKind.i64 0, Value.int IntKind.i64 0, Value.int IntKind.i64 0, Value.slice none 0 0, Value.int IntKind.i64 0, Value.int IntKind.i64 0, Value.int IntKind.i64 0, Value.slice none 0 0, Value.int IntKind.i64 0, Value.int IntKind.i64 0, Value.int IntKind.i64 a3, Value.int IntKind.i64 0, Value.int IntKind.i64 0, Value.int IntKind.i64 a2, Value.int IntKind.i64 0] := ⟨_, rfl⟩
  obtain ⟨W, hW⟩ : ∃ W : World, W = ((w.alloc (Obj.map #[] 0)).alloc (Obj.cells C 88)).alloc (Obj.cells KS 95) := ⟨_, rfl⟩
  have hb : W.heap[w.heap.size]? = some (.map (ents []) ([] : List (ByteArray × Value)).length) := by
    subst hW
    rw [Below.heap_alloc _ _ _ (by simp; omega), Below.heap_alloc _ _ _ (by simp)]
    exact heap_alloc_new _ _
  have hrp : W.heap[w.heap.size + 1]? = some (.cells C 88) := by
    subst hW
    rw [Below.heap_alloc _ _ _ (by simp)]
    have := heap_alloc_new (w.alloc (Obj.map #[] 0)) (.cells C 88)
    simpa using this
  have hrk : W.heap[w.heap.size + 1 + 1]? = some (.cells KS 95) := by
    subst hW
    have := heap_alloc_new ((w.alloc (Obj.map #[] 0)).alloc (Obj.cells C 88)) (.cells KS 95)
    simpa using this
  obtain ⟨W1, hup, hm1, hg1, hs1⟩ := file_any (w := W) (b := w.heap.size) a0 (.pointer (some ⟨w.heap.size + 1 + 1, 0, none⟩)) hb rfl
  have hB : Below w.heap.size w W1 := by
    have h1 : Below w.heap.size w W := by subst hW; exact (((Below.refl _ _).alloc (Nat.le_refl _) _).alloc (by simp) _).alloc (by simp; omega) _
    exact h1.grown hg1 h1.size (by intro k hk; simp at hk; omega)
  have hp1 : W1.cell? ⟨w.heap.size + 1, 62, none⟩ = some (.map (some w.heap.size)) := by
    have := (hg1.block (w.heap.size + 1) (by subst hW; simp) (by simp)).trans hrp
    simp [World.cell?, this, hC2]
  have hks : ∀ i, i < 22 → W1.cell? ⟨w.heap.size + 1 + 1, i, none⟩ = KS[i]? := by
    intro i hi
    have := (hg1.block (w.heap.size + 1 + 1) (by subst hW; simp) (by simp; omega)).trans hrk
    simp [World.cell?, this]
  have c0 : W1.cell? ⟨w.heap.size + 1 + 1, 0, none⟩ = some (.string a0) := by rw [hks 0 (by omega), hKS]; rfl
  have c1 : W1.cell? ⟨w.heap.size + 1 + 1, 1, none⟩ = some (.int .i64 a1) := by rw [hks 1 (by omega), hKS]; rfl
  have c5 : W1.cell? ⟨w.heap.size + 1 + 1, 5, none⟩ = some (.int .i64 0) := by rw [hks 5 (by omega), hKS]; rfl
  have c9 : W1.cell? ⟨w.heap.size + 1 + 1, 9, none⟩ = some (.int .i64 0) := by rw [hks 9 (by omega), hKS]; rfl
  have c13 : W1.cell? ⟨w.heap.size + 1 + 1, 13, none⟩ = some (.int .i64 0) := by rw [hks 13 (by omega), hKS]; rfl
  have c17 : W1.cell? ⟨w.heap.size + 1 + 1, 17, none⟩ = some (.int .i64 a3) := by rw [hks 17 (by omega), hKS]; rfl
  have c18 : W1.cell? ⟨w.heap.size + 1 + 1, 18, none⟩ = some (.int .i64 0) := by rw [hks 18 (by omega), hKS]; rfl
  have c19 : W1.cell? ⟨w.heap.size + 1 + 1, 19, none⟩ = some (.int .i64 0) := by rw [hks 19 (by omega), hKS]; rfl
  have c20 : W1.cell? ⟨w.heap.size + 1 + 1, 20, none⟩ = some (.int .i64 a2) := by rw [hks 20 (by omega), hKS]; rfl
  simp only [List.nil_append] at hm1
  have hlook := run_look a0 hm1
  have hlen := run_lenk hm1
  simp only [List.length_cons, List.length_nil] at hlen
  have hfv : findV a0 [(a0, Value.pointer (some ⟨w.heap.size + 1 + 1, 0, none⟩))] = some (.pointer (some ⟨w.heap.size + 1 + 1, 0, none⟩)) := by simp [findV, bbeq_self]
  rw [hfv] at hlook
  rw [hW, hKS] at hup
  simp only [Option.getD_some] at hlook
  clear hks hrk hrp hb hg1 hs1 hC1 hW hKS
  go_enter Yba.func4, Yba.ntmps4
  go_wp2_with (first | (refine wpList_build_pool rfl _ _ rfl a4 w.heap.size rfl rfl C hbd ?_) | (go_at_call 5; refine (keyOf_found (w.heap.size + 1) w.heap.size a0 _ _ _ hp1 hm1 hfv).mono ?_; rintro e w' ⟨rfl, rfl⟩))
  go_ret
  exact ⟨rfl, hB⟩

/-! ### THE ROW's STEP: WRITTEN OUT: LEAVE IT -/
set_option maxRecDepth 100000 in
theorem lifted (os : Os) (started : os.Started) (H : Type) (enc : TypeId × Value → H) :
    ReturnsInHanded {} Yba.checked os 4 .any (Rows.lawS1785CKeptSpec.pre6 enc Yba.prog Yba.f4 Rows.lawS1785CKeptRow.domain false) (Rows.lawS1785CKeptSpec.post enc Yba.prog Yba.f4 false true false false) := by
  refine returnsInHanded_of_change (C := Yba.checked) own started (by kernel_rfl) Yba.func4
    (ChangeSpec.witness6 (enc := enc) (C := Yba.checked) false ⟨#[], #[.string ByteArray.empty, .int .i64 0, .int .i64 0, .int .i64 0, .int .i64 0], []⟩ 8 (by kernel_rfl) (by kernel_rfl) (by kernel_rfl) (by kernel_rfl)) ?_
  intro W base args ds gs before hval0 hW hcnd _
  have hval : ∀ (j : Nat) t v, Yba.f4.params[j]? = some t → args[j]? = some v → Value.okWide Yba.prog W .any base t v := hval0
  have hW' := hW
  obtain ⟨p, q, hA0, hV, rfl, hfz, hnd⟩ := hW
  have hA : DataW.TrodAll enc Yba.prog W 0 (fun _ => true) true Yba.f4.params.toList args.toList ds p := hA0
  rw [Yba.params4] at hA hval
  obtain ⟨v0, vs0, d0, ds0, p0, q0, hargs, rfl, rfl, h0, r0⟩ := trodAll_cons hA
  obtain ⟨v1, vs1, d1, ds1, p1, q1, rfl, rfl, rfl, h1, r1⟩ := trodAll_cons r0
  obtain ⟨v2, vs2, d2, ds2, p2, q2, rfl, rfl, rfl, h2, r2⟩ := trodAll_cons r1
  obtain ⟨v3, vs3, d3, ds3, p3, q3, rfl, rfl, rfl, h3, r3⟩ := trodAll_cons r2
  obtain ⟨v4, vs4, d4, ds4, p4, q4, rfl, rfl, rfl, h4, r4⟩ := trodAll_cons r3
  obtain ⟨rfl, rfl, rfl⟩ := trodAll_nil r4
  obtain rfl : args = #[v0, v1, v2, v3, v4] := by cases args; simp_all
  obtain ⟨rfl, rfl⟩ := trodVars_none hV
  obtain ⟨a0, rfl, rfl, rfl, w0⟩ := open_string Yba.underlying9 (hval 0 9 v0 rfl rfl) h0
  obtain ⟨a1, rfl, rfl, rfl, w1⟩ := open_int Yba.underlying3 (hval 1 3 v1 rfl rfl) h1
  obtain ⟨a2, rfl, rfl, rfl, w2⟩ := open_int Yba.underlying3 (hval 2 3 v2 rfl rfl) h2
  obtain ⟨a3, rfl, rfl, rfl, w3⟩ := open_int Yba.underlying3 (hval 3 3 v3 rfl rfl) h3
  obtain ⟨a4, rfl, rfl, rfl, w4⟩ := open_int Yba.underlying3 (hval 4 3 v4 rfl rfl) h4
  clear hA0 hval0
  simp only [List.append_nil] at hW'
  refine (walk a0 a1 a2 a3 a4 W).mono fun e W' ⟨he, bel⟩ => ?_
  subst he
  exact ⟨_, rfl, _, _, _, [], _, [], hW', trodAll_mk1 (shut_bool Yba.underlying4 _), (trodAll_cons_mk (shut_string Yba.underlying9 w0) (trodAll_cons_mk (shut_int Yba.underlying3 w1) (trodAll_cons_mk (shut_int Yba.underlying3 w2) (trodAll_cons_mk (shut_int Yba.underlying3 w3) (trodAll_cons_mk (shut_int Yba.underlying3 w4) trodAll_mk0))))), rfl, bel.frame _, fun h => by cases h⟩

theorem over : Rows.lawS1785CKeptRow.holds Yba.pinned (OpenSpec.ofChange Rows.lawS1785CKeptSpec) :=
  OpenClaim.holds_of_wide 4 Yba.f4 rfl rfl rfl rfl rfl rfl rfl ⟨rfl, rfl, rfl, rfl, rfl⟩ rfl rfl rfl rfl rfl (by kernel_rfl) Yba.func4 (by kernel_rfl)
    (of_decide_eq_true (by kernel_rfl)) (by unfold Func.isWrapper; first | (rw [if_pos (by decide +kernel)]; kernel_rfl) | (rw [if_neg (by decide +kernel)]; exact ⟨rfl, rfl⟩))
    (fun os started H enc _ => lifted os started H enc)

/-- ████ THE STATEMENT ████ -/
theorem proved : Rows.LawS1785CKeptSaid :=
  over
end Go.Proofs.Ybulkajye.lawS1785CKept
