/-
  Seat b1782a: what both laws share: slices.Equal at two rows that hold the same, (*Context).Abort, and the plain functions that say what the chain does.
-/
import Derived.Test.YbulkajwoParts
import Derived.Deep.QuietTactic
import Derived.BigQuiet
import Derived.Deep.LoopGhost
import Derived.Deep.RegionWith
namespace Go.Proofs.Ybulkajwo
open Go.RowKit

/-! ### THE PLAIN FUNCTIONS: no Go in sight -/
def exL (A : Nat → Bool) : Nat → Nat → List Int
  | 0, _ => []
  | m + 1, i => (i : Int) :: (if A i then [] else exL A m (i + 1))
def exIdx (A : Nat → Bool) : Nat → Nat → Nat
  | 0, i => i
  | m + 1, i => if A i then i + 1 else exIdx A m (i + 1)
def exAb (A : Nat → Bool) : Nat → Nat → Bool
  | 0, _ => false
  | m + 1, i => if A i then true else exAb A m (i + 1)

/-- What is still to come at index i. -/
def restL (A : Nat → Bool) (n i : Nat) (ab : Bool) : List Int := if ab then [] else exL A (n - i) i
def restIdx (A : Nat → Bool) (n i : Nat) (ab : Bool) : Nat := if ab then i else exIdx A (n - i) i
def restAb (A : Nat → Bool) (n i : Nat) (ab : Bool) : Bool := if ab then true else exAb A (n - i) i

theorem rest_step (A : Nat → Bool) (n i : Nat) (h : i < n) : restL A n i false = (i : Int) :: restL A n (i + 1) (A i) ∧ restIdx A n i false = restIdx A n (i + 1) (A i) ∧ restAb A n i false = restAb A n (i + 1) (A i) := by
  obtain ⟨m, hm⟩ : ∃ m, n - i = m + 1 := ⟨n - i - 1, by omega⟩
  have hm' : n - (i + 1) = m := by omega
  simp only [restL, restIdx, restAb, hm, hm', exL, exIdx, exAb]
  cases A i <;> simp
theorem rest_stop (A : Nat → Bool) (n i : Nat) (b : Bool) (h : b = true ∨ n ≤ i) : restL A n i b = [] ∧ restIdx A n i b = i ∧ restAb A n i b = b := by
  rcases h with rfl | h
  · simp [restL, restIdx, restAb]
  · have hm : n - i = 0 := by omega
    simp only [restL, restIdx, restAb, hm, exL, exIdx, exAb]
    cases b <;> simp

/-! ### slices.Equal -/
set_option maxHeartbeats 400000 in
theorem equal_own (g1 g2 n c1 c2 : Nat) (f : Nat → Int) (w : World) (hn : n ≤ 1000)
    (h1 : ∀ i, i < n → w.cell? ⟨g1, i, none⟩ = some (.int .i64 (f i))) (h2 : ∀ i, i < n → w.cell? ⟨g2, i, none⟩ = some (.int .i64 (f i))) :
    Calls Yba.prog 9 #[.slice (some ⟨g1, 0, none⟩) n c1, .slice (some ⟨g2, 0, none⟩) n c2] w fun e w' => e = .returned (.bool true) ∧ ∃ q, w' = w.drewN q := by
  go_enter Yba.func9, Yba.ntmps9
  go_wp2
  go_loopw [13] (fun i wr => ∃ k q : Nat, k ≤ n ∧ i = .int .i64 k ∧ wr = w.drewN q) (fun i _ => n - (intOf i).toNat)
  case atStart => exact ⟨0, 0, Nat.zero_le _, rfl, rfl⟩
  case round =>
    obtain ⟨k, q, hk, rfl, rfl⟩ := hrel
    by_cases hlt : k < n
    · have e1 := h1 k hlt
      have e2 := h2 k hlt
      go_wp2
      go_quiet (fail)
      go_wp2
      go_roundw
      case rel => exact ⟨k + 1, q + nq, by omega, by go_num, rfl⟩
      case measure => simp [intOf]; omega
    · go_wp2
      go_ret
      exact ⟨rfl, _, rfl⟩

theorem equal_none (a1 a2 : Option Addr) (c1 c2 : Nat) (w : World) :
    Calls Yba.prog 9 #[.slice a1 0 c1, .slice a2 0 c2] w fun e w' => e = .returned (.bool true) ∧ ∃ q, w' = w.drewN q := by
  go_enter Yba.func9, Yba.ntmps9
  go_wp2
  refine wp_loop_rounds 1 ?_
  rw [rounds_succ]
  go_wp2
  go_ret
  exact ⟨rfl, 0, rfl⟩

theorem equal_log {w : World} {t1 t2 : Nat} {v1 v2 : Value} {L : List Int} (h1 : LogIs w t1 v1 L) (h2 : LogIs w t2 v2 L) (hL : L.length ≤ 1000) :
    Calls Yba.prog 9 #[v1, v2] w fun e w' => e = .returned (.bool true) ∧ ∃ q, w' = w.drewN q := by
  rcases h1 with ⟨rfl, a1, rfl⟩ | ⟨hne, o1⟩
  · rcases h2 with ⟨_, a2, rfl⟩ | ⟨hne, _⟩
    · exact equal_none _ _ _ _ _
    · exact absurd rfl hne
  · rcases h2 with ⟨rfl, _⟩ | ⟨_, o2⟩
    · exact absurd rfl hne
    · have hpos : L.length ≠ 0 := fun h => hne (List.length_eq_zero_iff.1 h)
      obtain ⟨l1, ⟨_, e1⟩ | ⟨g1, c1, cur1, rfl, _⟩⟩ := id o1
      · exact absurd e1 hpos
      obtain ⟨l2, ⟨_, e2⟩ | ⟨g2, c2, cur2, rfl, _⟩⟩ := id o2
      · exact absurd e2 hpos
      have key : ∀ {g c t : Nat}, w.ownsRow t 3 1 (.slice (some ⟨g, 0, none⟩) L.length c) L.length (L.map (Value.int .i64)) → ∀ i, i < L.length → w.cell? ⟨g, i, none⟩ = some (.int .i64 (L.getD i 0)) := by
        intro g c t ho i hi
        have := ho.cells (g := g) rfl i (.int .i64 (L.getD i 0)) (by simp [hi])
        have e : (⟨g, 0, none⟩ : Addr).add i = ⟨g, i, none⟩ := by unfold Addr.add; split <;> simp_all
        rw [e] at this
        exact this
      exact equal_own g1 g2 L.length c1 c2 (fun i => L.getD i 0) w hL (key o1) (key o2)

/-! ### Abort -/
theorem abort_any (b : Nat) (w : World) (x : Bool) (h : w.cell? ⟨b, 13, none⟩ = some (.bool x)) (hf : w.frozen? ⟨b, 13, none⟩ = false) :
    Calls Yba.prog 6 #[.pointer (some ⟨b, 0, none⟩)] w fun e w' => e = .returned (.tuple #[]) ∧ w' = w.setCell ⟨b, 13, none⟩ (.bool true) := by
  go_enter Yba.func6, Yba.ntmps6
  go_wp2
  go_end0
  exact ⟨rfl, rfl⟩


/-! ### zzs1782bexpect -/
set_option maxHeartbeats 400000 in
theorem expect_any (A : Nat → Bool) (n : Nat) (ao : Option Addr) (cap : Nat) (w : World) (hA : AbortIs w.heap.size n ao A w) (i0 : Nat) (ab : Bool) (hi : i0 ≤ n + 1) (hn : n ≤ 256) :
    Calls Yba.prog 8 #[.slice ao n cap, .int .i64 ((i0 : Int) - 1), .bool ab] w
      fun e w' => ∃ v, e = .returned (.tuple #[v, .int .i64 (restIdx A n i0 ab), .bool (restAb A n i0 ab)]) ∧ LogIs w' w.heap.size v (restL A n i0 ab) ∧ Below w.heap.size w w' := by
  cases ab
  · go_enter Yba.func8, Yba.ntmps8
    go_wp2_with fail
    go_loopw [10, 11] (fun v c wr => ∃ (i : Nat) (L : List Int), c = .int .i64 i ∧ LogIs wr w.heap.size v L ∧ Below w.heap.size w wr ∧ i0 ≤ i ∧ i ≤ n + 1 ∧ (i ≤ n ∨ i = i0) ∧ L.length ≤ i ∧
      Hid (L ++ restL A n i false = restL A n i0 false ∧ restIdx A n i false = restIdx A n i0 false ∧ restAb A n i false = restAb A n i0 false)) (fun _ c _ => n + 2 - (intOf c).toNat)
    case atStart => exact ⟨i0, [], rfl, .inl ⟨rfl, _, rfl⟩, (Below.refl _ _).alloc (Nat.le_refl _) _, by omega, by omega, by omega, by simp, rfl, rfl, rfl⟩
    case round =>
      obtain ⟨i, L, rfl, hlog, hb, hi1, hi2, hi3, hL, hH⟩ := hrel
      obtain ⟨a, c, rfl⟩ := hlog.shape
      have hz := hb.size
      by_cases hlt : i < n
      · obtain ⟨b, off, rfl, hbb, hc⟩ := hA i hlt
        cases hAi : A i
        · go_wp2_with (at_builtin; refine wpList_append_log rfl _ _ rfl w.heap.size _ L rfl (hlog.alloc _) ⟨wr.heap.size, 0, none⟩ i rfl ?d1 ?d3 ?d2 ?_)
          case d1 => simp
          case d2 => simp; omega
          case d3 => omega
          intro g cp w1 hl1 hb1
          have g3 := (hb1.cell (p := ⟨b, off + i, none⟩) (by exact hbb)).trans (((hb.alloc hz _).cell (p := ⟨b, off + i, none⟩) (by exact hbb)).trans (hc.trans (by rw [hAi])))
          have B2 := (hb.alloc hz _).trans hb1
          clear hb1 hlog
          go_wp2_with fail
          go_roundw
          case rel =>
            obtain ⟨e1, e2, e3⟩ := hH.out
            obtain ⟨s1, s2, s3⟩ := rest_step A n i hlt
            rw [s1] at e1; rw [s2] at e2; rw [s3] at e3
            rw [hAi] at e1 e2 e3
            exact ⟨i + 1, L ++ [(i : Int)], by go_num, hl1, B2, by omega, by omega, by omega, by simp; omega, by simpa using e1, e2, e3⟩
          case measure => simp [intOf]; omega
        · go_wp2_with (at_builtin; refine wpList_append_log rfl _ _ rfl w.heap.size _ L rfl (hlog.alloc _) ⟨wr.heap.size, 0, none⟩ i rfl ?q1 ?q3 ?q2 ?_)
          case q1 => simp
          case q2 => simp; omega
          case q3 => omega
          intro g cp w1 hl1 hb1
          have g3 := (hb1.cell (p := ⟨b, off + i, none⟩) (by exact hbb)).trans (((hb.alloc hz _).cell (p := ⟨b, off + i, none⟩) (by exact hbb)).trans (hc.trans (by rw [hAi])))
          have B2 := (hb.alloc hz _).trans hb1
          clear hb1 hlog
          go_wp2_with fail
          go_ret3
          obtain ⟨e1, e2, e3⟩ := hH.out
          obtain ⟨s1, s2, s3⟩ := rest_step A n i hlt
          rw [s1] at e1; rw [s2] at e2; rw [s3] at e3
          rw [hAi] at e1 e2 e3
          obtain ⟨t1, t2, t3⟩ := rest_stop A n (i + 1) true (.inl rfl)
          rw [t1] at e1; rw [t2] at e2; rw [t3] at e3
          refine ⟨_, by rw [← e2, ← e3]; rfl, ?_, B2⟩
          rw [← e1]; exact hl1
      · obtain ⟨e1, e2, e3⟩ := hH.out
        obtain ⟨t1, t2, t3⟩ := rest_stop A n i false (.inr (by omega))
        rw [t1, List.append_nil] at e1; rw [t2] at e2; rw [t3] at e3
        have HE : Hid (L = restL A n i0 false ∧ i = restIdx A n i0 false ∧ false = restAb A n i0 false) := ⟨e1, e2, e3⟩
        clear e1 e2 e3 t1 t2 t3
        by_cases hin : i0 < n
        · have hni : i = n := by omega
          have HN : Hid (i = n) := hni
          clear hni
          go_wp2_with fail
          go_ret3
          obtain ⟨e1, e2, e3⟩ := HE.out
          refine ⟨_, by rw [← e2, ← e3, HN.out]; rfl, ?_, hb⟩
          rw [← e1]; exact hlog
        · have hni : i = i0 := by omega
          have HN : Hid (i = i0) := hni
          clear hni
          go_wp2_with fail
          go_ret3
          obtain ⟨e1, e2, e3⟩ := HE.out
          refine ⟨_, by rw [← e2, ← e3, HN.out]; rfl, ?_, hb⟩
          rw [← e1]; exact hlog
  · go_enter Yba.func8, Yba.ntmps8
    go_wp2_with fail
    go_ret3
    exact ⟨_, rfl, .inl ⟨rfl, _, rfl⟩, (Below.refl _ _).alloc (Nat.le_refl _) _⟩

section
variable {B Bl Bh Bk Bc n top : Nat} {ao : Option Addr} {cap : Nat} {H : Nat → Value} {w0 w : World} {L : List Int} {idx : Int} {ab : Bool}
theorem Inv.drew (h : Inv B Bl Bh Bk Bc n top ao cap H w0 w L idx ab) : Inv B Bl Bh Bk Bc n top ao cap H w0 w.drew L idx ab := h.drewN 1


theorem LogIs.below {w' : World} {top : Nat} {v : Value} (h : LogIs w top v L) (hb : Below w.heap.size w w') : LogIs w' top v L := by
  rcases h with h | ⟨h1, h2⟩
  · exact .inl h
  · exact .inr ⟨h1, ownsRow_below h2 fun g _ hg => hb.block g hg⟩

theorem AbortIs.later {A : Nat → Bool} (hA : AbortIs B n ao A w0) {w : World} (hb : Below B w0 w) (hz : B ≤ w.heap.size) : AbortIs w.heap.size n ao A w := by
  intro j hj
  obtain ⟨b, off, h1, h2, h3⟩ := hA j hj
  exact ⟨b, off, h1, by omega, by rw [hb.cell (by exact h2)]; exact h3⟩

theorem restL_length (A : Nat → Bool) (n i : Nat) (b : Bool) : (restL A n i b).length ≤ n := by
  have key : ∀ m i, (exL A m i).length ≤ m := by
    intro m
    induction m with
    | zero => intro i; simp [exL]
    | succ m ih =>
      intro i
      have := ih (i + 1)
      simp only [exL, List.length_cons]
      cases A i
      · simpa using this
      · simp
  unfold restL
  cases b
  · have := key (n - i) i
    simp; omega
  · simp
end

/-! ### While the handlers are made -/
/-- What lies in memory while the handlers are made: i of them stand. B: the first block of the call's own; 'Bl' the log's variable; then the handlers' array; then their variables. -/
structure Pre (B Bl n : Nat) (ao : Option Addr) (cap : Nat) (H : Nat → Value) (w0 w : World) (i : Nat) : Prop where
  lt : B < Bl
  below : Below B w0 w
  size : w.heap.size = Bl + 2 + i
  box : w.rowIs B 22 1 (fun _ => .slice ao n cap)
  log : ∃ a, w.rowIs Bl 23 1 (fun _ => .slice (some a) 0 0)
  hand : w.rowIs (Bl + 1) 28 n (fun j => if j < i then H j else .nilFunc)
  kb : ∀ j, j < i → w.rowIs (Bl + 2 + j) 3 1 (fun _ => .int .i64 j)

theorem Pre.step {B Bl n : Nat} {ao : Option Addr} {cap : Nat} {H : Nat → Value} {w0 w : World} {i : Nat} (h : Pre B Bl n ao cap H w0 w i) {v : Value} (hv : v = H i) :
    Pre B Bl n ao cap H w0 ((w.alloc (.cells #[.int .i64 i] 3)).setCell ⟨Bl + 1, i, none⟩ v) (i + 1) := by
  obtain ⟨h0, h1, h2, h3, ⟨a, h4⟩, h5, h6⟩ := h
  subst hv
  refine ⟨h0, (h1.alloc (by omega) _).setCell (by simp; omega) _, by simp [World.setCell]; omega, (h3.alloc _).setOther (by simp; omega) _, ⟨a, (h4.alloc _).setOther (by simp) _⟩, ?_, ?_⟩
  · refine ((h5.alloc _).set i _).congr fun j _ => ?_
    by_cases e : j = i
    · subst e; simp
    · simp only [if_neg e]
      by_cases e' : j < i
      · rw [if_pos e', if_pos (by omega)]
      · rw [if_neg e', if_neg (by omega)]
  · intro j hj
    by_cases e : j = i
    · subst e
      have hr := World.rowIs_alloc w #[.int .i64 j] 3 (fun _ => .int .i64 j) (by intro i hi; simp at hi; subst hi; rfl)
      rw [h2] at hr
      exact hr.setOther (by simp; omega) _
    · exact ((h6 j (by omega)).alloc _).setOther (by simp; omega) _

theorem Pre.inv {B Bl n : Nat} {ao : Option Addr} {cap : Nat} {H : Nat → Value} {w0 w : World} (h : Pre B Bl n ao cap H w0 w n) {C : Array Value} (hC : C.size = 24) {idx : Int} {ab : Bool}
    (e1 : C[11]? = some (.slice (some ⟨Bl + 1, 0, none⟩) n n)) (e2 : C[12]? = some (.int .i64 idx)) (e3 : C[13]? = some (.bool ab)) :
    Inv B Bl (Bl + 1) (Bl + 2) w.heap.size n (w.heap.size + 1) ao cap H w0 (w.alloc (.cells C 59)) [] idx ab := by
  obtain ⟨h0, h1, h2, h3, ⟨a, h4⟩, h5, h6⟩ := h
  refine ⟨⟨by omega, by omega, by omega, by omega, by omega⟩, h1.alloc (by omega) _, by simp, h3.alloc _, ?_, fun i hi => (h6 i hi).alloc _, ⟨_, h4.alloc _, .inl ⟨rfl, a, rfl⟩⟩, ?_⟩
  · exact (h5.alloc _).congr fun i hi => if_pos hi
  · have hr := World.rowIs_alloc w C 59 (fun i => C.getD i undef) (by intro i hi; simp [hi])
    rw [hC] at hr
    refine ⟨_, hr, ?_, ?_, ?_⟩
    · simp [e1]
    · simp [e2]
    · simp [e3]

end Go.Proofs.Ybulkajwo
