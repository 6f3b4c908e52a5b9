import Derived.Test.YbulkajwoNest
namespace Go.Proofs.Ybulkajwo.NestedOnce
open Go.RowKit
section
variable {B Bn Bl Bh Bk Bc n top : Nat} {ao : Option Addr} {cap : Nat} {no : Option Addr} {nlen ncap : Nat} {w0 : World}

/-- Handler i's contract. -/
def CloAt (B Bn Bl Bh Bk Bc n top : Nat) (ao : Option Addr) (cap : Nat) (no : Option Addr) (nlen ncap : Nat) (A : Nat → Bool) (w0 : World) (i : Nat) : Prop :=
  ∀ (w : World) (L : List Int), InvN B Bn Bl Bh Bk Bc n top ao cap no nlen ncap (H10 B Bn Bl Bk) w0 w L i false → (L ++ restL A n i false).length ≤ 1000 →
    Calls Yba.prog 10 #[.pointer (some ⟨Bc, 0, none⟩), .pointer (some ⟨Bl, 0, none⟩), .pointer (some ⟨Bk + i, 0, none⟩), .pointer (some ⟨B, 0, none⟩), .pointer (some ⟨Bn, 0, none⟩)] w
      fun e w' => e = .returned (.tuple #[]) ∧ CloPost B Bn Bl Bh Bk Bc n top ao cap no nlen ncap A w0 i L w'

set_option maxHeartbeats 1000000 in
theorem next_of (A : Nat → Bool) (i0 : Nat) (hi : i0 ≤ n + 1) (hn : n ≤ 256) (hclo : ∀ i, i0 ≤ i → i < n → CloAt B Bn Bl Bh Bk Bc n top ao cap no nlen ncap A w0 i) :
    NextAt B Bn Bl Bh Bk Bc n top ao cap no nlen ncap A w0 i0 := by
  intro w L0 ab h hL0
  have a1 := h.inv.c12
  have a2 := h.inv.f12
  go_enter Yba.func7, Yba.ntmps7
  go_wp2_with fail
  go_loopg [] (2 * n + 3 - i0) (fun k wr => ∃ (i : Nat) (L : List Int) (b : Bool), InvN B Bn Bl Bh Bk Bc n top ao cap no nlen ncap (H10 B Bn Bl Bk) w0 wr L i b ∧ k = 2 * n + 3 - i ∧ i0 ≤ i ∧ i + i0 ≤ 2 * n + 2 ∧
    Aside (L ++ restL A n i b = L0 ++ restL A n i0 ab ∧ restAb A n i b = restAb A n i0 ab))
  case atStart => exact ⟨i0, L0, ab, h.setIdx _, rfl, by omega, by omega, ⟨rfl, rfl⟩⟩
  case round =>
    obtain ⟨i, L, b, hI, rfl, hi1, hi2, hA3⟩ := hrel
    have c1 := hI.inv.c11
    have c2 := hI.inv.c12
    have c3 := hI.inv.c13
    have c4 := hI.inv.f12
    by_cases hlt : i < n
    · cases b
      · have hd : decide ((i : Int) < (n : Int)) = true := decide_eq_true (by omega)
        have hlt' : (i : Int) < (n : Int) := by omega
        have c5 := hI.inv.cH hlt
        unfold H10 at c5
        have hLn : Hid ((L ++ restL A n i false).length ≤ 1000) := by
          show (L ++ restL A n i false).length ≤ 1000
          rw [hA3.out.1]; exact hL0
        have hci := hclo i hi1 hlt
        go_wp2_with fail
        go_quiet (fail)
        go_wp2_with fail
        go_region_with (go_at_call 10; refine (hci _ L (hI.drewN nq).drew hLn.out).mono ?_; rintro e w' ⟨rfl, j, L', b', hI2, hj1, hj2, hj3, hj4⟩; have A4 : Aside (L' ++ restL A n (j + 1) b' = L ++ restL A n i false ∧ restAb A n (j + 1) b' = restAb A n i false) := ⟨hj3, hj4⟩; clear hj3 hj4; have d1 := hI2.inv.c12; have d2 := hI2.inv.f12)
        all_goals
          go_wp2_with fail
          go_roundg (2 * n + 3 - (j + 1))
          case measure => omega
          case rel =>
            obtain ⟨e1, e2⟩ := hA3.out
            obtain ⟨s1, s2⟩ := A4.out
            exact ⟨j + 1, L', b', by simpa using hI2.setIdx ((j : Int) + 1), rfl, by omega, by omega, s1.trans e1, s2.trans e2⟩
      · have hd : decide ((i : Int) < (n : Int)) = true := decide_eq_true (by omega)
        have hlt' : (i : Int) < (n : Int) := by omega
        go_wp2_with fail
        go_quiet (fail)
        go_wp2_with fail
        go_end0
        have e := rest_stop A n i true (.inl rfl)
        obtain ⟨e1, e2⟩ := hA3.out
        rw [e.1, List.append_nil] at e1
        rw [e.2.2] at e2
        exact ⟨rfl, i, by rw [← e1, ← e2]; exact hI.drewN nq, .inl e2.symm, hi1, hi2⟩
    · have hd : decide ((i : Int) < (n : Int)) = false := decide_eq_false (by omega)
      go_wp2_with fail
      go_quiet (fail)
      go_wp2_with fail
      go_end0
      have e := rest_stop A n i b (.inr (by omega))
      obtain ⟨e1, e2⟩ := hA3.out
      rw [e.1, List.append_nil] at e1
      rw [e.2.2] at e2
      exact ⟨rfl, i, by rw [← e1, ← e2]; exact hI.drewN nq, .inr (by omega), hi1, hi2⟩

/-- Next, at whatever index: by induction on how many handlers are still to come. -/
theorem next10 (A N : Nat → Bool) (hA : AbortIs B n ao A w0) (hN : NestIs B nlen no N w0) (hn : n ≤ 256) (hnl : nlen ≤ 1024) (m : Nat) :
    ∀ i0, i0 ≤ n + 1 → n + 1 ≤ i0 + m → NextAt B Bn Bl Bh Bk Bc n top ao cap no nlen ncap A w0 i0 := by
  induction m with
  | zero => intro i0 h1 h2; exact next_of A i0 h1 hn fun i h3 h4 => by omega
  | succ m ih =>
    intro i0 h1 h2
    exact next_of A i0 h1 hn fun i h3 h4 w L hI hL => clo10 A N hA hN i h4 hn hnl hI hL (ih (i + 1) (by omega) (by omega))
end
end Go.Proofs.Ybulkajwo.NestedOnce
