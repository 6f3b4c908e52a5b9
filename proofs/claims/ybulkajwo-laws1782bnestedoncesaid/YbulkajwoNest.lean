/-
  Seat b1782a, LawS1782BNestedOnce: the handler (function 10), which may call Next itself, and Next (function 7) over such handlers, by induction on how many handlers are still to come.
-/
import Derived.Test.YbulkajwoShared
namespace Go.Proofs.Ybulkajwo.NestedOnce
open Go.RowKit

/-- 'Inv', and the variable that holds 'Nest', in block Bn. -/
structure InvN (B Bn Bl Bh Bk Bc n top : Nat) (ao : Option Addr) (cap : Nat) (no : Option Addr) (nlen ncap : Nat) (H : Nat → Value) (w0 w : World) (L : List Int) (idx : Int) (ab : Bool) : Prop where
  inv : Inv B Bl Bh Bk Bc n top ao cap H w0 w L idx ab
  ordn : B < Bn ∧ Bn < Bl
  nest : w.rowIs Bn 22 1 (fun _ => .slice no nlen ncap)

/-- What 'Nest' says of handler i. -/
def NestIs (B nlen : Nat) (no : Option Addr) (N : Nat → Bool) (w0 : World) : Prop :=
  (∀ j, nlen ≤ j → N j = false) ∧ ∀ j, j < nlen → ∃ b off, no = some ⟨b, off, none⟩ ∧ b < B ∧ w0.cell? ⟨b, off + j, none⟩ = some (.bool (N j))

def H10 (B Bn Bl Bk : Nat) (i : Nat) : Value := .func (.func 10) #[] #[.pointer (some ⟨Bl, 0, none⟩), .pointer (some ⟨Bk + i, 0, none⟩), .pointer (some ⟨B, 0, none⟩), .pointer (some ⟨Bn, 0, none⟩)]

section
variable {B Bn Bl Bh Bk Bc n top : Nat} {ao : Option Addr} {cap : Nat} {no : Option Addr} {nlen ncap : Nat} {H : Nat → Value} {w0 w : World} {L : List Int} {idx : Int} {ab : Bool}

theorem InvN.drewN (h : InvN B Bn Bl Bh Bk Bc n top ao cap no nlen ncap H w0 w L idx ab) (q : Nat) : InvN B Bn Bl Bh Bk Bc n top ao cap no nlen ncap H w0 (w.drewN q) L idx ab :=
  ⟨h.inv.drewN q, h.ordn, h.nest⟩
theorem InvN.drew (h : InvN B Bn Bl Bh Bk Bc n top ao cap no nlen ncap H w0 w L idx ab) : InvN B Bn Bl Bh Bk Bc n top ao cap no nlen ncap H w0 w.drew L idx ab := h.drewN 1
theorem InvN.alloc (h : InvN B Bn Bl Bh Bk Bc n top ao cap no nlen ncap H w0 w L idx ab) (o : Obj) : InvN B Bn Bl Bh Bk Bc n top ao cap no nlen ncap H w0 (w.alloc o) L idx ab :=
  ⟨h.inv.alloc o, h.ordn, h.nest.alloc o⟩
theorem InvN.logged (h : InvN B Bn Bl Bh Bk Bc n top ao cap no nlen ncap H w0 w L idx ab) {w' : World} (hb : Below top w w') {v : Value} {L' : List Int} (hl : LogIs w' top v L') :
    InvN B Bn Bl Bh Bk Bc n top ao cap no nlen ncap H w0 (w'.setCell ⟨Bl, 0, none⟩ v) L' idx ab := by
  have o1 := h.inv.ord
  have o2 := h.ordn
  exact ⟨h.inv.logged hb hl, h.ordn, (h.nest.of_block (hb.block _ (by omega))).setOther (by simp; omega) _⟩
theorem InvN.setIdx (h : InvN B Bn Bl Bh Bk Bc n top ao cap no nlen ncap H w0 w L idx ab) (j : Int) : InvN B Bn Bl Bh Bk Bc n top ao cap no nlen ncap H w0 (w.setCell ⟨Bc, 12, none⟩ (.int .i64 j)) L j ab := by
  have o1 := h.inv.ord
  have o2 := h.ordn
  exact ⟨h.inv.setIdx j, h.ordn, h.nest.setOther (by simp; omega) _⟩
theorem InvN.setAb (h : InvN B Bn Bl Bh Bk Bc n top ao cap no nlen ncap H w0 w L idx ab) (b : Bool) : InvN B Bn Bl Bh Bk Bc n top ao cap no nlen ncap H w0 (w.setCell ⟨Bc, 13, none⟩ (.bool b)) L idx b := by
  have o1 := h.inv.ord
  have o2 := h.ordn
  exact ⟨h.inv.setAb b, h.ordn, h.nest.setOther (by simp; omega) _⟩
theorem InvN.cN (h : InvN B Bn Bl Bh Bk Bc n top ao cap no nlen ncap H w0 w L idx ab) : w.cell? ⟨Bn, 0, none⟩ = some (.slice no nlen ncap) := h.nest.cell (by omega)

/-- What Next leaves, called at index i0 - 1. -/
def NextPost (B Bn Bl Bh Bk Bc n top : Nat) (ao : Option Addr) (cap : Nat) (no : Option Addr) (nlen ncap : Nat) (A : Nat → Bool) (w0 : World) (i0 : Nat) (L : List Int) (ab : Bool) (w' : World) : Prop :=
  ∃ j : Nat, InvN B Bn Bl Bh Bk Bc n top ao cap no nlen ncap (H10 B Bn Bl Bk) w0 w' (L ++ restL A n i0 ab) j (restAb A n i0 ab) ∧ (restAb A n i0 ab = true ∨ n ≤ j) ∧ i0 ≤ j ∧ j + i0 ≤ 2 * n + 2

/-- What handler i leaves. -/
def CloPost (B Bn Bl Bh Bk Bc n top : Nat) (ao : Option Addr) (cap : Nat) (no : Option Addr) (nlen ncap : Nat) (A : Nat → Bool) (w0 : World) (i : Nat) (L : List Int) (w' : World) : Prop :=
  ∃ (j : Nat) (L' : List Int) (b : Bool), InvN B Bn Bl Bh Bk Bc n top ao cap no nlen ncap (H10 B Bn Bl Bk) w0 w' L' j b ∧ i ≤ j ∧ j + i ≤ 2 * n + 1 ∧
    L' ++ restL A n (j + 1) b = L ++ restL A n i false ∧ restAb A n (j + 1) b = restAb A n i false

/-- A handler that does not call Next. -/
theorem clo_plain {A : Nat → Bool} {i : Nat} (hi : i < n) {b : Bool} (hb : b = A i) (h : InvN B Bn Bl Bh Bk Bc n top ao cap no nlen ncap (H10 B Bn Bl Bk) w0 w (L ++ [(i : Int)]) i b) :
    CloPost B Bn Bl Bh Bk Bc n top ao cap no nlen ncap A w0 i L w := by
  subst hb
  obtain ⟨s1, _, s3⟩ := rest_step A n i hi
  exact ⟨i, _, _, h, by omega, by omega, by rw [s1]; simp, s3.symm⟩

/-- A handler that calls Next. -/
theorem clo_nested {A : Nat → Bool} {i : Nat} (hi : i < n) {b : Bool} (hb : b = A i) (h : NextPost B Bn Bl Bh Bk Bc n top ao cap no nlen ncap A w0 (i + 1) (L ++ [(i : Int)]) b w) :
    CloPost B Bn Bl Bh Bk Bc n top ao cap no nlen ncap A w0 i L w := by
  subst hb
  obtain ⟨j, h1, h2, h3, h4⟩ := h
  obtain ⟨s1, _, s3⟩ := rest_step A n i hi
  obtain ⟨t1, _, t3⟩ := rest_stop A n (j + 1) (restAb A n (i + 1) (A i)) (by rcases h2 with e | e; exact .inl e; exact .inr (by omega))
  exact ⟨j, _, _, h1, by omega, by omega, by rw [t1, s1]; simp, by rw [t3, s3]⟩

/-- Next's contract at index i. -/
def NextAt (B Bn Bl Bh Bk Bc n top : Nat) (ao : Option Addr) (cap : Nat) (no : Option Addr) (nlen ncap : Nat) (A : Nat → Bool) (w0 : World) (i0 : Nat) : Prop :=
  ∀ (w : World) (L : List Int) (b : Bool), InvN B Bn Bl Bh Bk Bc n top ao cap no nlen ncap (H10 B Bn Bl Bk) w0 w L ((i0 : Int) - 1) b → (L ++ restL A n i0 b).length ≤ 1000 →
    Calls Yba.prog 7 #[.pointer (some ⟨Bc, 0, none⟩)] w fun e w' => e = .returned (.tuple #[]) ∧ NextPost B Bn Bl Bh Bk Bc n top ao cap no nlen ncap A w0 i0 L b w'

set_option maxHeartbeats 1000000 in
theorem clo10 (A N : Nat → Bool) (hA : AbortIs B n ao A w0) (hN : NestIs B nlen no N w0) (i : Nat) (hi : i < n) (hn : n ≤ 256) (_hnl : nlen ≤ 1024)
    (h : InvN B Bn Bl Bh Bk Bc n top ao cap no nlen ncap (H10 B Bn Bl Bk) w0 w L i false) (hL : (L ++ restL A n i false).length ≤ 1000)
    (hnext : NextAt B Bn Bl Bh Bk Bc n top ao cap no nlen ncap A w0 (i + 1)) :
    Calls Yba.prog 10 #[.pointer (some ⟨Bc, 0, none⟩), .pointer (some ⟨Bl, 0, none⟩), .pointer (some ⟨Bk + i, 0, none⟩), .pointer (some ⟨B, 0, none⟩), .pointer (some ⟨Bn, 0, none⟩)] w
      fun e w' => e = .returned (.tuple #[]) ∧ CloPost B Bn Bl Bh Bk Bc n top ao cap no nlen ncap A w0 i L w' := by
  obtain ⟨b, off, rfl, hb, hc⟩ := hA i hi
  obtain ⟨v, hv, hlog⟩ := h.inv.log
  obtain ⟨a, c, rfl⟩ := hlog.shape
  have hcl := hv.cell (i := 0) (by omega)
  have hck := h.inv.cK hi
  have hin : (0 : Int) ≤ (i : Int) ∧ (i : Int) < (n : Int) := by omega
  have hroom := h.inv.room
  have hLl : L.length ≤ 100000 := by simp at hL; omega
  have HL2 : Hid ((L ++ [(i : Int)] ++ restL A n (i + 1) (A i)).length ≤ 1000) := by
    rw [(rest_step A n i hi).1] at hL
    show (L ++ [(i : Int)] ++ restL A n (i + 1) (A i)).length ≤ 1000
    simpa using hL
  clear hv hL
  go_enter Yba.func10, Yba.ntmps10
  go_wp2_with (at_builtin; refine wpList_append_log rfl _ _ rfl top _ L rfl (hlog.alloc _) ⟨w.heap.size, 0, none⟩ i rfl ?c1 hLl ?c2 ?_)
  case c1 => simp
  case c2 => simp; omega
  intro g cp w1 hl1 hb1
  have I1 := (h.alloc _).logged hb1 hl1
  have g1 := I1.inv.cB
  have g2 := I1.inv.cK hi
  have g3 := I1.inv.cA hb hc
  have g4 := I1.inv.c13
  have g5 := I1.inv.f13
  have g6 : w1.frozen? ⟨Bl, 0, none⟩ = false := by
    obtain ⟨v2, hv2, _⟩ := (h.alloc (Obj.cells #[Value.int IntKind.i64 ↑i] 3)).inv.log
    exact (hv2.of_block (hb1.block _ (by have := h.inv.ord; omega))).frozen 0
  obtain ⟨y, g7⟩ : ∃ y, w1.cell? ⟨Bl, 0, none⟩ = some y := by
    obtain ⟨v2, hv2, _⟩ := (h.alloc (Obj.cells #[Value.int IntKind.i64 ↑i] 3)).inv.log
    exact ⟨_, (hv2.of_block (hb1.block _ (by have := h.inv.ord; omega))).cell (i := 0) (by omega)⟩
  clear hl1 hb1 hcl hck h hlog
  have rest : ∀ (W : World) (b2 : Bool), b2 = A i → InvN B Bn Bl Bh Bk Bc n top (some { block := b, off := off }) cap no nlen ncap (H10 B Bn Bl Bk) w0 W (L ++ [(i : Int)]) i b2 →
      Calls Yba.prog 7 #[.pointer (some ⟨Bc, 0, none⟩)] W fun e w' => e = .returned (.tuple #[]) ∧ CloPost B Bn Bl Bh Bk Bc n top (some { block := b, off := off }) cap no nlen ncap A w0 i L w' := by
    intro W b2 hb2 hI
    subst hb2
    refine (hnext W (L ++ [(i : Int)]) (A i) (by simpa using hI) HL2.out).mono ?_
    rintro e w' ⟨he, hp⟩
    exact ⟨he, clo_nested hi rfl hp⟩
  cases hAi : A i
  · rw [hAi] at g3 rest
    have I2 := I1
    have k1 := I2.cN
    by_cases hil : i < nlen
    · obtain ⟨nb, noff, rfl, hnb, hnc⟩ := hN.2 i hil
      have k2 := I2.inv.cA hnb hnc
      have hd : decide ((i : Int) < (nlen : Int)) = true := decide_eq_true (by omega)
      have hin2 : (0 : Int) ≤ (i : Int) ∧ (i : Int) < (nlen : Int) := by omega
      cases hNi : N i
      · rw [hNi] at k2
        clear rest
        go_wp2_with fail
        go_end0
        exact ⟨rfl, clo_plain hi hAi.symm I2⟩
      · rw [hNi] at k2
        go_wp2_with (go_at_call 7; refine (rest _ false rfl I2).mono ?_; rintro e w' ⟨rfl, hp⟩)
        go_end0
        exact ⟨rfl, hp⟩
    · have hd : decide ((i : Int) < (nlen : Int)) = false := decide_eq_false (by omega)
      clear rest
      go_wp2_with fail
      go_end0
      exact ⟨rfl, clo_plain hi hAi.symm I2⟩
  · rw [hAi] at g3 rest
    have I2 := I1.setAb true
    have k1 := I2.cN
    have k3 := I2.inv.cK hi
    by_cases hil : i < nlen
    · obtain ⟨nb, noff, rfl, hnb, hnc⟩ := hN.2 i hil
      have k2 := I2.inv.cA hnb hnc
      have hd : decide ((i : Int) < (nlen : Int)) = true := decide_eq_true (by omega)
      have hin2 : (0 : Int) ≤ (i : Int) ∧ (i : Int) < (nlen : Int) := by omega
      cases hNi : N i
      · rw [hNi] at k2
        clear rest
        go_wp2_with (go_at_call 6; refine (abort_any Bc _ false g4 g5).mono ?_; rintro e w' ⟨rfl, rfl⟩)
        go_end0
        exact ⟨rfl, clo_plain hi hAi.symm I2⟩
      · rw [hNi] at k2
        go_wp2_with (first | (go_at_call 6; refine (abort_any Bc _ false g4 g5).mono ?_; rintro e w' ⟨rfl, rfl⟩) | (go_at_call 7; refine (rest _ true rfl I2).mono ?_; rintro e w' ⟨rfl, hp⟩))
        go_end0
        exact ⟨rfl, hp⟩
    · have hd : decide ((i : Int) < (nlen : Int)) = false := decide_eq_false (by omega)
      clear rest
      go_wp2_with (go_at_call 6; refine (abort_any Bc _ false g4 g5).mono ?_; rintro e w' ⟨rfl, rfl⟩)
      go_end0
      exact ⟨rfl, clo_plain hi hAi.symm I2⟩
end
end Go.Proofs.Ybulkajwo.NestedOnce
