/-
  Seat b1782a, LawS1782BRunsInOrder: the handler (function 5) and Next (function 7) over such handlers.
-/
import Derived.Test.YbulkajwoShared
namespace Go.Proofs.Ybulkajwo
open Go.RowKit
section
variable {B Bl Bh Bk Bc n top : Nat} {ao : Option Addr} {cap : Nat} {H : Nat → Value} {w0 w : World} {L : List Int} {idx : Int} {ab : Bool}

set_option maxHeartbeats 400000 in
theorem clo5 (A : Nat → Bool) (hA : AbortIs B n ao A w0) (h : Inv B Bl Bh Bk Bc n top ao cap H w0 w L idx ab) (i : Nat) (hi : i < n) (hn : n ≤ 256) (hL : L.length ≤ 100000) :
    Calls Yba.prog 5 #[.pointer (some ⟨Bc, 0, none⟩), .pointer (some ⟨Bl, 0, none⟩), .pointer (some ⟨Bk + i, 0, none⟩), .pointer (some ⟨B, 0, none⟩)] w
      fun e w' => e = .returned (.tuple #[]) ∧ Inv B Bl Bh Bk Bc n top ao cap H w0 w' (L ++ [(i : Int)]) idx (ab || A i) := by
  obtain ⟨b, off, rfl, hb, hc⟩ := hA i hi
  obtain ⟨v, hv, hlog⟩ := h.log
  obtain ⟨a, c, rfl⟩ := hlog.shape
  have hcl := hv.cell (i := 0) (by omega)
  have hck := h.cK hi
  have hin : (0 : Int) ≤ (i : Int) ∧ (i : Int) < (n : Int) := by omega
  have hroom := h.room
  clear hv
  go_enter Yba.func5, Yba.ntmps5
  go_wp2_with (at_builtin; refine wpList_append_log rfl _ _ rfl top _ L rfl (hlog.alloc _) ⟨w.heap.size, 0, none⟩ i rfl ?c1 hL ?c2 ?_)
  case c1 => simp
  case c2 => simp; omega
  intro g cp w1 hl1 hb1
  have I1 := (h.alloc _).logged hb1 hl1
  have g1 := I1.cB
  have g2 := I1.cK hi
  have g3 := I1.cA hb hc
  have g4 := I1.c13
  have g5 := I1.f13
  have g6 : w1.frozen? ⟨Bl, 0, none⟩ = false := by
    obtain ⟨v2, hv2, _⟩ := (h.alloc (Obj.cells #[Value.int IntKind.i64 ↑i] 3)).log
    exact (hv2.of_block (hb1.block _ (by have := h.ord; omega))).frozen 0
  obtain ⟨y, g7⟩ : ∃ y, w1.cell? ⟨Bl, 0, none⟩ = some y := by
    obtain ⟨v2, hv2, _⟩ := (h.alloc (Obj.cells #[Value.int IntKind.i64 ↑i] 3)).log
    exact ⟨_, (hv2.of_block (hb1.block _ (by have := h.ord; omega))).cell (i := 0) (by omega)⟩
  clear hl1 hb1 hcl hck h hlog
  cases hAi : A i
  · rw [hAi] at g3
    go_wp2_with fail
    go_end0
    exact ⟨rfl, by rw [hAi, Bool.or_false]; exact I1⟩
  · rw [hAi] at g3
    go_wp2_with (go_at_call 6; refine (abort_any Bc _ ab g4 g5).mono ?_; rintro e w' ⟨rfl, rfl⟩)
    go_end0
    exact ⟨rfl, by rw [hAi, Bool.or_true]; exact I1.setAb true⟩

def H5 (B Bl Bk : Nat) (i : Nat) : Value := .func (.func 5) #[] #[.pointer (some ⟨Bl, 0, none⟩), .pointer (some ⟨Bk + i, 0, none⟩), .pointer (some ⟨B, 0, none⟩)]

set_option maxHeartbeats 400000 in
theorem next5 (A : Nat → Bool) (hA : AbortIs B n ao A w0) (i0 : Nat) (h : Inv B Bl Bh Bk Bc n top ao cap (H5 B Bl Bk) w0 w [] ((i0 : Int) - 1) ab) (hi : i0 ≤ n + 1) (hn : n ≤ 256) :
    Calls Yba.prog 7 #[.pointer (some ⟨Bc, 0, none⟩)] w
      fun e w' => e = .returned (.tuple #[]) ∧ Inv B Bl Bh Bk Bc n top ao cap (H5 B Bl Bk) w0 w' (restL A n i0 ab) (restIdx A n i0 ab) (restAb A n i0 ab) := by
  have a1 := h.c12
  have a2 := h.f12
  go_enter Yba.func7, Yba.ntmps7
  go_wp2_with fail
  go_loopg [] (n + 2 - i0) (fun k wr => ∃ (i : Nat) (L : List Int) (b : Bool), Inv B Bl Bh Bk Bc n top ao cap (H5 B Bl Bk) w0 wr L i b ∧ k = n + 2 - i ∧ i ≤ n + 1 ∧ L.length ≤ i ∧
    Aside (L ++ restL A n i b = restL A n i0 ab ∧ restIdx A n i b = restIdx A n i0 ab ∧ restAb A n i b = restAb A n i0 ab))
  case atStart => exact ⟨i0, [], ab, h.setIdx _, rfl, by omega, by simp, ⟨rfl, rfl, rfl⟩⟩
  case round =>
    obtain ⟨i, L, b, hI, rfl, hi1, hLi, hA3⟩ := hrel
    have c1 := hI.c11
    have c2 := hI.c12
    have c3 := hI.c13
    have c4 := hI.f12
    by_cases hlt : i < n
    · cases b
      · have hd : decide ((i : Int) < (n : Int)) = true := decide_eq_true (by omega)
        have hlt' : (i : Int) < (n : Int) := by omega
        have c5 := hI.cH hlt
        unfold H5 at c5
        go_wp2_with fail
        go_quiet (fail)
        go_wp2_with fail
        go_region_with (go_at_call 5; refine (clo5 A hA (hI.drewN nq).drew i hlt hn ?_).mono ?_; omega; rintro e w' ⟨rfl, hI2⟩; have d1 := hI2.c12; have d2 := hI2.f12)
        all_goals
          go_wp2_with fail
          go_roundg (n + 2 - (i + 1))
          case measure => omega
          case rel =>
            obtain ⟨e1, e2, e3⟩ := hA3.out
            obtain ⟨s1, s2, s3⟩ := rest_step A n i hlt
            rw [s1] at e1; rw [s2] at e2; rw [s3] at e3
            exact ⟨i + 1, L ++ [(i : Int)], A i, by simpa using hI2.setIdx ((i : Int) + 1), rfl, by omega, by simp; omega, by simpa using e1, e2, e3⟩
      · have hd : decide ((i : Int) < (n : Int)) = true := decide_eq_true (by omega)
        have hlt' : (i : Int) < (n : Int) := by omega
        go_wp2_with fail
        go_quiet (fail)
        go_wp2_with fail
        go_end0
        have e := rest_stop A n i true (.inl rfl)
        obtain ⟨e1, e2, e3⟩ := hA3.out
        rw [e.1, List.append_nil] at e1
        rw [e.2.1] at e2
        rw [e.2.2] at e3
        exact ⟨rfl, by rw [← e1, ← e2, ← e3]; exact hI.drewN nq⟩
    · have hd : decide ((i : Int) < (n : Int)) = false := decide_eq_false (by omega)
      go_wp2_with fail
      go_quiet (fail)
      go_wp2_with fail
      go_end0
      have e := rest_stop A n i b (.inr (by omega))
      obtain ⟨e1, e2, e3⟩ := hA3.out
      rw [e.1, List.append_nil] at e1
      rw [e.2.1] at e2
      rw [e.2.2] at e3
      exact ⟨rfl, by rw [← e1, ← e2, ← e3]; exact hI.drewN nq⟩
end
end Go.Proofs.Ybulkajwo
