/-
  Seat b1782a: the memory of the two laws, told outside every walk: what the log is, what lies where, and what each step does to it.
-/
import Derived.Test.YbulkajwoProg
import Derived.WalkKit
import Derived.Deep.OwnRows
import Derived.Deep.Draws
namespace Go.Proofs.Ybulkajwo
open Go.RowKit

theorem Yba.info3 : (Yba.prog.info? 3).map (fun i => (i.zero, i.size, i.bytes)) = some (some (.int .i64 0), 1, 8) := by kernel_rfl
theorem Yba.info28 : (Yba.prog.info? 28).map (fun i => (i.zero, i.size, i.bytes)) = some (some .nilFunc, 1, 8) := by kernel_rfl

/-- The slice v holds the numbers L: it is an empty one without room, or a row of the call's own from block 'top' on. -/
def LogIs (w : World) (top : Nat) (v : Value) (L : List Int) : Prop :=
  (L = [] ∧ ∃ ao, v = .slice (some ao) 0 0) ∨ (L ≠ [] ∧ w.ownsRow top 3 1 v L.length (L.map (Value.int .i64)))

theorem ownsRow_base {w : World} {b b' e size : Nat} {v : Value} {n : Nat} {xs : List Value} (h : w.ownsRow b e size v n xs) (hb : b' ≤ b) : w.ownsRow b' e size v n xs := by
  refine ⟨h.1, ?_⟩
  rcases h.2 with h2 | ⟨g, cap, cur, hv, hg, r⟩
  · exact .inl h2
  · exact .inr ⟨g, cap, cur, hv, by omega, r⟩

theorem ownsRow_below {w w' : World} {b e size : Nat} {v : Value} {n : Nat} {xs : List Value} (h : w.ownsRow b e size v n xs) (hb : ∀ g, b ≤ g → g < w.heap.size → w'.heap[g]? = w.heap[g]?) : w'.ownsRow b e size v n xs := by
  refine ⟨h.1, ?_⟩
  rcases h.2 with h2 | ⟨g, cap, cur, hv, hg, hh, r⟩
  · exact .inl h2
  · exact .inr ⟨g, cap, cur, hv, hg, by rw [hb g hg (Array.getElem?_eq_some_iff.1 hh).1]; exact hh, r⟩

theorem LogIs.alloc {w : World} {top : Nat} {v : Value} {L : List Int} (h : LogIs w top v L) (o : Obj) : LogIs (w.alloc o) top v L := by
  rcases h with h | ⟨h1, h2⟩
  · exact .inl h
  · exact .inr ⟨h1, h2.alloc o⟩

theorem LogIs.drewN {w : World} {top : Nat} {v : Value} {L : List Int} (h : LogIs w top v L) (q : Nat) : LogIs (w.drewN q) top v L := h

theorem LogIs.setBelow {w : World} {top : Nat} {v : Value} {L : List Int} (h : LogIs w top v L) {a : Addr} (ha : a.block < top) (u : Value) : LogIs (w.setCell a u) top v L := by
  rcases h with h | ⟨h1, h2⟩
  · exact .inl h
  · exact .inr ⟨h1, ownsRow_setCell_below h2 ha u⟩

theorem LogIs.shape {w : World} {top : Nat} {v : Value} {L : List Int} (h : LogIs w top v L) : ∃ a c, v = .slice (some a) L.length c := by
  rcases h with ⟨rfl, a, rfl⟩ | ⟨hne, h1, ⟨_, h2⟩ | ⟨g, c, cur, rfl, _⟩⟩
  · exact ⟨a, 0, rfl⟩
  · exact absurd (List.length_eq_zero_iff.1 h2) hne
  · exact ⟨_, c, rfl⟩

/-- ONE NUMBER APPENDED. -/
theorem wpList_append_log {w : World} {ops : Array Oper} {rest : List Oper} {o : Oper} {a : Act} {Q : Exit → Act → World → Prop} (hgd : o.guard = none) (s x : Operand)
    (ho : o.op = .call { callee := .builtin .append, args := #[s, x], argTypes := #[23, 23] })
    (top : Nat) (v : Value) (L : List Int) (hs : a.eval s = v) (hlog : LogIs w top v L) (ad : Addr) (k : Int) (hx : a.eval x = .slice (some ad) 1 1)
    (hcell : w.cell? ad = some (.int .i64 k)) (hL : L.length ≤ 100000) (htop : top ≤ w.heap.size)
    (h : ∀ g cap w', LogIs w' top (.slice (some ⟨g, 0, none⟩) (L.length + 1) cap) (L ++ [k]) → Below top w w' →
      wpList Yba.prog ops Q rest (a.put o.dst (.slice (some ⟨g, 0, none⟩) (L.length + 1) cap)) w') : wpList Yba.prog ops Q (o :: rest) a w := by
  obtain ⟨i0, hi, hz0, hz1, hz2⟩ := info_parts Yba.info3
  have hnews : ∀ j u, [Value.int .i64 k][j]? = some u → w.cell? (ad.add j) = some u := by
    intro j u hj
    match j, hj with
    | 0, hj => simp at hj; subst hj; simpa [Addr.add] using hcell
  have h1 : ∀ u ∈ [Value.int .i64 k], u.oneCell' = true := by intro u hu; simp at hu; subst hu; rfl
  have hmx : L.length + 1 ≤ maxLen := by unfold maxLen; omega
  have done : ∀ (v' : Value) (w' : World), w'.ownsRow top 3 1 v' (L.length + 1) (L.map (Value.int .i64) ++ [.int .i64 k]) → Below top w w' → wpList Yba.prog ops Q rest (a.put o.dst v') w' := by
    intro v' w' hown hb
    obtain ⟨e1, e2⟩ := hown
    rcases e2 with ⟨_, e0⟩ | ⟨g, cap, cur, rfl, r⟩
    · omega
    · refine h g cap w' ?_ hb
      refine .inr ⟨by simp, by simp, .inr ⟨g, cap, cur, ?_, ?_⟩⟩
      · simp
      · simpa using r
  rcases hlog with ⟨rfl, ao, rfl⟩ | ⟨_, hown⟩
  · refine wpList_append_grows w hgd s x 23 ho 3 i0 (.int .i64 0) 1 8 Yba.underlying23 hi hz0 hz1 hz2 rfl (by decide) (some ao) 0 0 [] hs (by simp) rfl (by simp) ad 1 1 [.int .i64 k] hx rfl hnews h1 (by omega) (by simpa using hmx) (by simp) ?_
    intro v' w' hown hg
    exact done v' w' (by simpa using ownsRow_base hown htop) ⟨hg.os, hg.tape, hg.output, hg.size, fun j hj => hg.block j (by omega) (by simp)⟩
  · refine wpList_append_own w hgd s x 23 ho top 3 i0 (.int .i64 0) 1 8 Yba.underlying23 hi hz0 hz1 hz2 rfl (by decide) v L.length (L.map (Value.int .i64)) hs hown ad 1 1 [.int .i64 k] hx rfl hnews h1 hmx (by omega) htop ?_
    intro v' w' hown' hg _
    refine done v' w' hown' ⟨hg.os, hg.tape, hg.output, hg.size, fun j hj => hg.block j (by omega) ?_⟩
    intro e
    have := (hown.lt j e.symm).1
    omega

/-- WHAT LIES WHERE while the chain runs: 'Abort' in block B, the log's variable in Bl, the handlers in Bh, handler i's own variable in Bk + i, the Context in Bc; from 'top' on the log's array alone. -/
structure Inv (B Bl Bh Bk Bc n top : Nat) (ao : Option Addr) (cap : Nat) (H : Nat → Value) (w0 w : World) (L : List Int) (idx : Int) (ab : Bool) : Prop where
  ord : B < Bl ∧ Bl < Bh ∧ Bh < Bk ∧ Bk + n = Bc ∧ Bc < top
  below : Below B w0 w
  room : top ≤ w.heap.size
  box : w.rowIs B 22 1 (fun _ => .slice ao n cap)
  hand : w.rowIs Bh 28 n H
  kb : ∀ i, i < n → w.rowIs (Bk + i) 3 1 (fun _ => .int .i64 i)
  log : ∃ v, w.rowIs Bl 23 1 (fun _ => v) ∧ LogIs w top v L
  ctx : ∃ f, w.rowIs Bc 59 24 f ∧ f 11 = .slice (some ⟨Bh, 0, none⟩) n n ∧ f 12 = .int .i64 idx ∧ f 13 = .bool ab

section
variable {B Bl Bh Bk Bc n top : Nat} {ao : Option Addr} {cap : Nat} {H : Nat → Value} {w0 w : World} {L : List Int} {idx : Int} {ab : Bool}

theorem Inv.drewN (h : Inv B Bl Bh Bk Bc n top ao cap H w0 w L idx ab) (q : Nat) : Inv B Bl Bh Bk Bc n top ao cap H w0 (w.drewN q) L idx ab :=
  ⟨h.ord, ⟨h.below.os, h.below.tape, h.below.output, h.below.size, h.below.block⟩, h.room, h.box, h.hand, h.kb, h.log, h.ctx⟩

theorem Inv.alloc (h : Inv B Bl Bh Bk Bc n top ao cap H w0 w L idx ab) (o : Obj) : Inv B Bl Bh Bk Bc n top ao cap H w0 (w.alloc o) L idx ab := by
  obtain ⟨⟨o1, o2, o3, o4, o5⟩, hb, ht, h1, h2, h3, ⟨v, h4, h5⟩, ⟨f, h6, h7⟩⟩ := h
  exact ⟨⟨o1, o2, o3, o4, o5⟩, hb.alloc (by omega) o, by simp; omega, h1.alloc o, h2.alloc o, fun i hi => (h3 i hi).alloc o, ⟨v, h4.alloc o, h5.alloc o⟩, ⟨f, h6.alloc o, h7⟩⟩

/-- A step that turns nothing below 'top', then the log's variable written. -/
theorem Inv.logged (h : Inv B Bl Bh Bk Bc n top ao cap H w0 w L idx ab) {w' : World} (hb : Below top w w') {v : Value} {L' : List Int} (hl : LogIs w' top v L') :
    Inv B Bl Bh Bk Bc n top ao cap H w0 (w'.setCell ⟨Bl, 0, none⟩ v) L' idx ab := by
  obtain ⟨⟨o1, o2, o3, o4, o5⟩, hb0, ht, h1, h2, h3, ⟨v0, h4, h5⟩, ⟨f, h6, h7⟩⟩ := h
  have hz := hb.size
  have bl : ∀ k, k < top → w'.heap[k]? = w.heap[k]? := hb.block
  refine ⟨⟨o1, o2, o3, o4, o5⟩, ?_, by simp [World.setCell]; omega, (h1.of_block (bl _ (by omega))).setOther (by simp; omega) _, (h2.of_block (bl _ (by omega))).setOther (by simp; omega) _,
    fun i hi => ((h3 i hi).of_block (bl _ (by omega))).setOther (by simp; omega) _, ⟨v, ?_, hl.setBelow (by simp; omega) _⟩, ⟨f, (h6.of_block (bl _ (by omega))).setOther (by simp; omega) _, h7⟩⟩
  · exact (hb0.trans (hb.mono (by omega))).setCell (by simp; omega) _
  · exact ((h4.of_block (bl _ (by omega))).set 0 v).congr (fun i hi => if_pos (show i = 0 by omega))

theorem Inv.setIdx (h : Inv B Bl Bh Bk Bc n top ao cap H w0 w L idx ab) (j : Int) : Inv B Bl Bh Bk Bc n top ao cap H w0 (w.setCell ⟨Bc, 12, none⟩ (.int .i64 j)) L j ab := by
  obtain ⟨⟨o1, o2, o3, o4, o5⟩, hb0, ht, h1, h2, h3, ⟨v0, h4, h5⟩, ⟨f, h6, h7, h8, h9⟩⟩ := h
  exact ⟨⟨o1, o2, o3, o4, o5⟩, hb0.setCell (by simp; omega) _, by simp [World.setCell]; omega, h1.setOther (by simp; omega) _, h2.setOther (by simp; omega) _,
    fun i hi => (h3 i hi).setOther (by simp; omega) _, ⟨v0, h4.setOther (by simp; omega) _, h5.setBelow (by simp; omega) _⟩, ⟨_, h6.set 12 _, by simp [h7], by simp, by simp [h9]⟩⟩

theorem Inv.setAb (h : Inv B Bl Bh Bk Bc n top ao cap H w0 w L idx ab) (b : Bool) : Inv B Bl Bh Bk Bc n top ao cap H w0 (w.setCell ⟨Bc, 13, none⟩ (.bool b)) L idx b := by
  obtain ⟨⟨o1, o2, o3, o4, o5⟩, hb0, ht, h1, h2, h3, ⟨v0, h4, h5⟩, ⟨f, h6, h7, h8, h9⟩⟩ := h
  exact ⟨⟨o1, o2, o3, o4, o5⟩, hb0.setCell (by simp; omega) _, by simp [World.setCell]; omega, h1.setOther (by simp; omega) _, h2.setOther (by simp; omega) _,
    fun i hi => (h3 i hi).setOther (by simp; omega) _, ⟨v0, h4.setOther (by simp; omega) _, h5.setBelow (by simp; omega) _⟩, ⟨_, h6.set 13 _, by simp [h7], by simp [h8], by simp⟩⟩

/-- What 'Abort' holds. -/
def AbortIs (B n : Nat) (ao : Option Addr) (A : Nat → Bool) (w0 : World) : Prop :=
  ∀ j, j < n → ∃ b off, ao = some ⟨b, off, none⟩ ∧ b < B ∧ w0.cell? ⟨b, off + j, none⟩ = some (.bool (A j))

theorem Inv.cA (h : Inv B Bl Bh Bk Bc n top ao cap H w0 w L idx ab) {b off : Nat} {v : Value} (hb : b < B) (hc : w0.cell? ⟨b, off, none⟩ = some v) : w.cell? ⟨b, off, none⟩ = some v := by
  rw [h.below.cell (by exact hb)]; exact hc
theorem Inv.cB (h : Inv B Bl Bh Bk Bc n top ao cap H w0 w L idx ab) : w.cell? ⟨B, 0, none⟩ = some (.slice ao n cap) := h.box.cell (by omega)
theorem Inv.cK (h : Inv B Bl Bh Bk Bc n top ao cap H w0 w L idx ab) {i : Nat} (hi : i < n) : w.cell? ⟨Bk + i, 0, none⟩ = some (.int .i64 i) := (h.kb i hi).cell (by omega)
theorem Inv.cH (h : Inv B Bl Bh Bk Bc n top ao cap H w0 w L idx ab) {i : Nat} (hi : i < n) : w.cell? ⟨Bh, i, none⟩ = some (H i) := h.hand.cell hi
theorem Inv.c11 (h : Inv B Bl Bh Bk Bc n top ao cap H w0 w L idx ab) : w.cell? ⟨Bc, 11, none⟩ = some (.slice (some ⟨Bh, 0, none⟩) n n) := by
  obtain ⟨f, h6, h7, h8, h9⟩ := h.ctx; rw [h6.cell (by omega), h7]
theorem Inv.c12 (h : Inv B Bl Bh Bk Bc n top ao cap H w0 w L idx ab) : w.cell? ⟨Bc, 12, none⟩ = some (.int .i64 idx) := by
  obtain ⟨f, h6, h7, h8, h9⟩ := h.ctx; rw [h6.cell (by omega), h8]
theorem Inv.c13 (h : Inv B Bl Bh Bk Bc n top ao cap H w0 w L idx ab) : w.cell? ⟨Bc, 13, none⟩ = some (.bool ab) := by
  obtain ⟨f, h6, h7, h8, h9⟩ := h.ctx; rw [h6.cell (by omega), h9]
theorem Inv.f12 (h : Inv B Bl Bh Bk Bc n top ao cap H w0 w L idx ab) : w.frozen? ⟨Bc, 12, none⟩ = false := by
  obtain ⟨f, h6, _⟩ := h.ctx; exact h6.frozen _
theorem Inv.f13 (h : Inv B Bl Bh Bk Bc n top ao cap H w0 w L idx ab) : w.frozen? ⟨Bc, 13, none⟩ = false := by
  obtain ⟨f, h6, _⟩ := h.ctx; exact h6.frozen _
end
end Go.Proofs.Ybulkajwo
