/-
  Seat b1786a, LawS1786CWake: the ring of waiters as it lies in memory, and what Push and Pop do to it; no walk in this text.
  The mutex lies in block B, the slice of waiters in B + 1; waiter j's channel in B + 2 + 2 j, waiter j itself in B + 3 + 2 j. Waiters s .. t - 1 are in the queue, s the oldest.
-/
import Derived.Test.YbulkajysQueue
import Derived.Deep.OwnRows
namespace Go.Proofs.Ybulkajys
open Go.RowKit
set_option linter.unusedSimpArgs false

/-- A store, as a row that may or may not hold the cell sees it. -/
theorem rowIs_setAny {w : World} {b t n : Nat} {f : Nat → Value} (h : w.rowIs b t n f) (c i : Nat) (v : Value) : (w.setCell ⟨c, i, none⟩ v).rowIs b t n (fun j => if b = c ∧ j = i then v else f j) := by
  by_cases e : b = c
  · subst e
    exact (h.set i v).congr fun j _ => by simp
  · exact (h.setOther (by simpa using e) v).congr fun j _ => by simp [e]

def wp (B j : Nat) : Value := .pointer (some ⟨B + 3 + 2 * j, 0, none⟩)
/-- Who comes behind j in the ring, and who ahead of it. -/
def nxt (s t j : Nat) : Nat := if j + 1 = t then s else j + 1
def prv (s t j : Nat) : Nat := if j = s then t - 1 else j - 1
/-- A waiter's cells. -/
def wcell (B s t j : Nat) (o : Nat) : Value :=
  if o = 0 then .chan (some (B + 2 + 2 * j)) else if s ≤ j ∧ j < t then (if o = 1 then wp B (nxt s t j) else wp B (prv s t j)) else .pointer none
/-- The mutex's cells. -/
def mcell (B s t : Nat) (st wt : Int) (o : Nat) : Value :=
  if o = 0 then .int .i32 st else if o = 1 then .int .i32 wt else if s < t then wp B (t - 1) else .pointer none

/-- kk waiters stand; s .. t - 1 are in the queue; the two words are st, wt. -/
structure Qs (B k kk s t : Nat) (st wt : Int) (w0 w : World) : Prop where
  below : Below B w0 w
  size : B + 2 + 2 * kk ≤ w.heap.size
  m : w.rowIs B 27 3 (mcell B s t st wt)
  ws : w.rowIs (B + 1) 23 k (fun j => if j < kk then wp B j else .pointer none)
  wt : ∀ j, j < kk → w.rowIs (B + 3 + 2 * j) 43 3 (wcell B s t j)

section
variable {B k kk s t : Nat} {st wt : Int} {w0 w : World}

theorem Qs.drewN (h : Qs B k kk s t st wt w0 w) (q : Nat) : Qs B k kk s t st wt w0 (w.drewN q) :=
  ⟨⟨h.below.os, h.below.tape, h.below.output, h.below.size, h.below.block⟩, h.size, h.m, h.ws, h.wt⟩
theorem Qs.drew (h : Qs B k kk s t st wt w0 w) : Qs B k kk s t st wt w0 w.drew := h.drewN 1

theorem Qs.row (h : Qs B k kk s t st wt w0 w) {j : Nat} (hj : j < kk) : Row w (B + 3 + 2 * j) := by
  obtain ⟨c, h1, _⟩ := h.wt j hj
  exact ⟨c, 43, h1⟩

/-- A word of the mutex written. -/
theorem Qs.setState (h : Qs B k kk s t st wt w0 w) (y : Int) : Qs B k kk s t y wt w0 (w.setCell ⟨B, 0, none⟩ (.int .i32 y)) :=
  ⟨h.below.setCell (by simp) _, by simpa [World.setCell] using h.size, (h.m.set 0 _).congr (fun o ho => by unfold mcell; match o, ho with | 0, _ => simp | 1, _ => simp | 2, _ => simp), h.ws.setOther (by simp) _, fun j hj => (h.wt j hj).setOther (by simp <;> omega) _⟩
theorem Qs.setWaiters (h : Qs B k kk s t st wt w0 w) (y : Int) : Qs B k kk s t st y w0 (w.setCell ⟨B, 1, none⟩ (.int .i32 y)) :=
  ⟨h.below.setCell (by simp) _, by simpa [World.setCell] using h.size, (h.m.set 1 _).congr (fun o ho => by unfold mcell; match o, ho with | 0, _ => simp | 1, _ => simp | 2, _ => simp), h.ws.setOther (by simp) _, fun j hj => (h.wt j hj).setOther (by simp <;> omega) _⟩

/-- A new waiter is made and laid into the slice. -/
theorem Qs.made (h : Qs B k kk s t st wt w0 w) (ht : t ≤ kk) (hz : w.heap.size = B + 2 + 2 * kk) {v : Value} (hv : v = wp B kk) :
    Qs B k (kk + 1) s t st wt w0 (((w.alloc (.chan 1 #[] false 0 0 false)).alloc (.cells #[.chan (some w.heap.size), .pointer none, .pointer none] 43)).setCell ⟨B + 1, kk, none⟩ v) := by
  subst hv
  refine ⟨((h.below.alloc (by omega) _).alloc (by simp <;> omega) _).setCell (by simp) _, by simp [World.setCell]; omega, ((h.m.alloc _).alloc _).setOther (by simp) _, ?_, ?_⟩
  · refine (((h.ws.alloc _).alloc _).set kk _).congr fun j _ => ?_
    by_cases e : j = kk
    · subst e; simp
    · simp only [if_neg e]
      by_cases e' : j < kk
      · rw [if_pos e', if_pos (by omega)]
      · rw [if_neg e', if_neg (by omega)]
  · intro j hj
    by_cases e : j = kk
    · subst e
      have hr := World.rowIs_alloc (w.alloc (.chan 1 #[] false 0 0 false)) #[.chan (some w.heap.size), .pointer none, .pointer none] 43 (wcell B s t j) (by
        intro o ho
        have hns : ¬ (s ≤ j ∧ j < t) := by omega
        simp only [wcell, if_neg hns]
        match o, ho with
        | 0, _ => simp [hz]
        | 1, _ => simp
        | 2, _ => simp)
      simp only [World.size_alloc] at hr
      rw [show w.heap.size + 1 = B + 3 + 2 * j by omega] at hr
      exact hr.setOther (by simp <;> omega) _
    · exact (((h.wt j (by omega)).alloc _).alloc _).setOther (by simp <;> omega) _

/-- Push of waiter t onto an empty queue. -/
theorem Qs.pushed_first (h : Qs B k 1 0 0 st wt w0 w) :
    Qs B k 1 0 1 st wt w0 ((((w.setCell ⟨B + 3 + 2 * 0, 1, none⟩ (wp B 0)).setCell ⟨B + 3 + 2 * 0, 2, none⟩ (wp B 0)).setCell ⟨B, 2, none⟩ (wp B 0)).setCell ⟨B, 2, none⟩ (wp B 0)) := by
  refine ⟨(((h.below.setCell (by simp <;> omega) _).setCell (by simp <;> omega) _).setCell (by simp) _).setCell (by simp) _, by simpa [World.setCell] using h.size, ?_, ?_, ?_⟩
  · refine (rowIs_setAny (rowIs_setAny (rowIs_setAny (rowIs_setAny h.m _ 1 _) _ 2 _) _ 2 _) _ 2 _).congr fun o ho => ?_
    unfold mcell
    match o, ho with
    | 0, _ => simp
    | 1, _ => simp
    | 2, _ => simp
  · exact (((h.ws.setOther (by simp <;> omega) _).setOther (by simp <;> omega) _).setOther (by simp) _).setOther (by simp) _
  · intro j hj
    obtain rfl : j = 0 := by omega
    refine (rowIs_setAny (rowIs_setAny (rowIs_setAny (rowIs_setAny (h.wt 0 hj) _ 1 _) _ 2 _) _ 2 _) _ 2 _).congr fun o ho => ?_
    unfold wcell nxt prv
    match o, ho with
    | 0, _ => simp
    | 1, _ => simp
    | 2, _ => simp

/-- Push of waiter t onto a queue of waiters 0 .. t - 1. -/
theorem Qs.pushed_more (h : Qs B k (t + 1) 0 t st wt w0 w) (ht : 0 < t) :
    Qs B k (t + 1) 0 (t + 1) st wt w0 (((((w.setCell ⟨B + 3 + 2 * t, 1, none⟩ (wp B 0)).setCell ⟨B + 3 + 2 * t, 2, none⟩ (wp B (t - 1))).setCell ⟨B + 3 + 2 * 0, 2, none⟩ (wp B t)).setCell ⟨B + 3 + 2 * (t - 1), 1, none⟩ (wp B t)).setCell ⟨B, 2, none⟩ (wp B t)) := by
  refine ⟨((((h.below.setCell (by simp <;> omega) _).setCell (by simp <;> omega) _).setCell (by simp <;> omega) _).setCell (by simp <;> omega) _).setCell (by simp) _, by simpa [World.setCell] using h.size, ?_, ?_, ?_⟩
  · refine (rowIs_setAny (rowIs_setAny (rowIs_setAny (rowIs_setAny (rowIs_setAny h.m _ 1 _) _ 2 _) _ 2 _) _ 1 _) _ 2 _).congr fun o ho => ?_
    have e1 : ¬ B = B + 3 + 2 * t := by omega
    have e2 : ¬ B = B + 3 + 2 * (t - 1) := by omega
    unfold mcell
    match o, ho with
    | 0, _ => simp [e1, e2]
    | 1, _ => simp [e1, e2]
    | 2, _ => simp
  · exact ((((h.ws.setOther (by simp <;> omega) _).setOther (by simp <;> omega) _).setOther (by simp <;> omega) _).setOther (by simp <;> omega) _).setOther (by simp) _
  · intro j hj
    refine (rowIs_setAny (rowIs_setAny (rowIs_setAny (rowIs_setAny (rowIs_setAny (h.wt j hj) _ 1 _) _ 2 _) _ 2 _) _ 1 _) _ 2 _).congr fun o ho => ?_
    have e0 : ¬ B + 3 + 2 * j = B := by omega
    have e1 : (B + 3 + 2 * j = B + 3 + 2 * t) ↔ j = t := by omega
    have e2 : (B + 3 + 2 * j = B + 3 + 2 * (t - 1)) ↔ j = t - 1 := by omega
    have e3 : (B + 3 + 2 * j = B + 3 + 2 * 0) ↔ j = 0 := by omega
    simp only [e0, e1, e2, e3, false_and, if_false]
    unfold wcell nxt prv
    match o, ho with
    | 0, _ => simp
    | 1, _ =>
      by_cases c1 : j = t
      · subst c1
        have : ¬ j = j - 1 := by omega
        simp [this]
      · have c3 : j < t := by omega
        by_cases c2 : j = t - 1
        · subst c2
          have : t - 1 + 1 = t := by omega
          have c4 : t - 1 < t := by omega
          have c5 : t - 1 < t + 1 := by omega
          simp [c1, this, c5]
        · have c4 : ¬ j + 1 = t := by omega
          have c5 : j < t + 1 := by omega
          simp [c1, c2, c3, c4, c5]
    | 2, _ =>
      by_cases c1 : j = t
      · subst c1
        have c2 : ¬ j = 0 := by omega
        simp [c2]
      · have c3 : j < t := by omega
        have c5 : j < t + 1 := by omega
        by_cases c2 : j = 0
        · subst c2
          simp [ht]
        · simp [c1, c2, c3, c5]

/-- Pop of the only one. -/
theorem Qs.popped_one (h : Qs B k kk s (s + 1) st wt w0 w) (hk : s + 1 ≤ kk) :
    Qs B k kk (s + 1) (s + 1) st wt w0 (((w.setCell ⟨B, 2, none⟩ (.pointer none)).setCell ⟨B + 3 + 2 * s, 1, none⟩ (.pointer none)).setCell ⟨B + 3 + 2 * s, 2, none⟩ (.pointer none)) := by
  refine ⟨((h.below.setCell (by simp) _).setCell (by simp <;> omega) _).setCell (by simp <;> omega) _, by simpa [World.setCell] using h.size, ?_, ?_, ?_⟩
  · refine (rowIs_setAny (rowIs_setAny (rowIs_setAny h.m _ 2 _) _ 1 _) _ 2 _).congr fun o ho => ?_
    have e1 : ¬ B = B + 3 + 2 * s := by omega
    unfold mcell
    match o, ho with
    | 0, _ => simp
    | 1, _ => simp [e1]
    | 2, _ => simp
  · exact ((h.ws.setOther (by simp) _).setOther (by simp <;> omega) _).setOther (by simp <;> omega) _
  · intro j hj
    refine (rowIs_setAny (rowIs_setAny (rowIs_setAny (h.wt j hj) _ 2 _) _ 1 _) _ 2 _).congr fun o ho => ?_
    have e0 : ¬ B + 3 + 2 * j = B := by omega
    have e1 : (B + 3 + 2 * j = B + 3 + 2 * s) ↔ j = s := by omega
    simp only [e0, e1, false_and, if_false]
    unfold wcell
    have c1 : ¬ (s + 1 ≤ j ∧ j < s + 1) := by omega
    by_cases c2 : j = s
    · subst c2
      have c4 : ¬ j + 1 ≤ j := by omega
      match o, ho with
      | 0, _ => simp
      | 1, _ => simp only [c4, false_and, if_false]; simp
      | 2, _ => simp only [c4, false_and, if_false]; simp
    · have c3 : ¬ (s ≤ j ∧ j < s + 1) := by omega
      simp [c2, c1, c3]

/-- Pop of the oldest of several. -/
theorem Qs.popped_more (h : Qs B k kk s t st wt w0 w) (hst : s + 1 < t) :
    Qs B k kk (s + 1) t st wt w0 ((((w.setCell ⟨B + 3 + 2 * (t - 1), 1, none⟩ (wp B (s + 1))).setCell ⟨B + 3 + 2 * (s + 1), 2, none⟩ (wp B (t - 1))).setCell ⟨B + 3 + 2 * s, 1, none⟩ (.pointer none)).setCell ⟨B + 3 + 2 * s, 2, none⟩ (.pointer none)) := by
  refine ⟨(((h.below.setCell (by simp <;> omega) _).setCell (by simp <;> omega) _).setCell (by simp <;> omega) _).setCell (by simp <;> omega) _, by simpa [World.setCell] using h.size, ?_, ?_, ?_⟩
  · refine (rowIs_setAny (rowIs_setAny (rowIs_setAny (rowIs_setAny h.m _ 1 _) _ 2 _) _ 1 _) _ 2 _).congr fun o ho => ?_
    have e1 : ¬ B = B + 3 + 2 * s := by omega
    have e2 : ¬ B = B + 3 + 2 * (t - 1) := by omega
    have e3 : ¬ B = B + 3 + 2 * (s + 1) := by omega
    have e4 : s < t := by omega
    unfold mcell
    simp [e1, e2, e3, hst, e4]
  · exact (((h.ws.setOther (by simp <;> omega) _).setOther (by simp <;> omega) _).setOther (by simp <;> omega) _).setOther (by simp <;> omega) _
  · intro j hj
    refine (rowIs_setAny (rowIs_setAny (rowIs_setAny (rowIs_setAny (h.wt j hj) _ 1 _) _ 2 _) _ 1 _) _ 2 _).congr fun o ho => ?_
    have e1 : (B + 3 + 2 * j = B + 3 + 2 * s) ↔ j = s := by omega
    have e2 : (B + 3 + 2 * j = B + 3 + 2 * (t - 1)) ↔ j = t - 1 := by omega
    have e3 : (B + 3 + 2 * j = B + 3 + 2 * (s + 1)) ↔ j = s + 1 := by omega
    simp only [e1, e2, e3]
    unfold wcell nxt prv
    by_cases c1 : j = s
    · subst c1
      have c2 : ¬ j + 1 ≤ j := by omega
      match o, ho with
      | 0, _ => simp
      | 1, _ => simp only [c2, false_and, if_false]; simp
      | 2, _ => simp only [c2, false_and, if_false]; simp
    · match o, ho with
      | 0, _ => simp
      | 1, _ =>
        by_cases c2 : j = t - 1
        · subst c2
          have c3 : t - 1 + 1 = t := by omega
          have c4 : s + 1 ≤ t - 1 ∧ t - 1 < t := by omega
          simp [c1, c3, c4]
        · by_cases c3 : s ≤ j ∧ j < t
          · have c4 : s + 1 ≤ j ∧ j < t := by omega
            have c5 : ¬ j + 1 = t := by omega
            simp [c1, c2, c3, c4, c5]
          · have c4 : ¬ (s + 1 ≤ j ∧ j < t) := by omega
            simp only [c1, c2, c3, c4, false_and, if_false]
            simp
      | 2, _ =>
        by_cases c2 : j = s + 1
        · subst c2
          have c4 : s + 1 < t := hst
          simp [c4]
        · by_cases c3 : s ≤ j ∧ j < t
          · have c4 : s + 1 ≤ j ∧ j < t := by omega
            simp [c1, c2, c3, c4]
          · have c4 : ¬ (s + 1 ≤ j ∧ j < t) := by omega
            simp only [c1, c2, c3, c4, false_and, if_false]
            simp
end
end Go.Proofs.Ybulkajys
