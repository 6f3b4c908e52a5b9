/-
  Seat b1785a, LawS1785CScript: what lies where in memory after i rounds, and what each step of a round does to it; no walk in this text.
-/
import Derived.Test.YbulkajyeState
namespace Go.Proofs.Ybulkajye
open Go.RowKit Go.ChangeMaps

theorem tl_eq {a b : ByteArray} (h : a = b) : (a.toList == b.toList) = true := by subst h; simp
theorem tl_ne {a b : ByteArray} (h : a ≠ b) : (a.toList == b.toList) = false := by
  rw [ByteArray.toList_eq, ByteArray.toList_eq]
  cases hc : a.data.toList == b.data.toList
  · rfl
  · rw [beq_iff_eq] at hc
    exact absurd (by cases a; cases b; simp at hc; subst hc; rfl) h

theorem findV_mem {k : ByteArray} {v : Value} : ∀ {l : List (ByteArray × Value)}, findV k l = some v → ∃ x, x ∈ l ∧ x.1 = k ∧ x.2 = v
  | [], h => by simp [findV] at h
  | x :: l, h => by
    unfold findV at h
    cases hk : k == x.1
    · rw [hk] at h
      obtain ⟨y, h1, h2⟩ := findV_mem (l := l) (by simpa using h)
      exact ⟨y, List.mem_cons_of_mem _ h1, h2⟩
    · rw [hk] at h
      exact ⟨x, List.mem_cons_self, ((bbeq_iff _ _).1 hk).symm, by simpa using h⟩
theorem findV_none {k : ByteArray} {l : List (ByteArray × Value)} (h : ∀ x ∈ l, x.1 ≠ k) : findV k l = none := by
  cases hc : findV k l with
  | none => rfl
  | some v =>
    obtain ⟨x, h1, h2, _⟩ := findV_mem hc
    exact absurd h2 (h x h1)
theorem findV_old {k : ByteArray} {v : Value} (x : ByteArray × Value) : ∀ {l : List (ByteArray × Value)}, findV k l = some v → findV k (l ++ [x]) = some v
  | [], h => by simp [findV] at h
  | y :: l, h => by
    unfold findV at h
    show (if k == y.1 then some y.2 else findV k (l ++ [x])) = some v
    cases hk : k == y.1
    · rw [hk] at h
      simpa using findV_old x (l := l) (by simpa using h)
    · rw [hk] at h
      simpa using h
theorem findV_new {k : ByteArray} (v : Value) : ∀ {l : List (ByteArray × Value)}, findV k l = none → findV k (l ++ [(k, v)]) = some v
  | [], _ => by simp [findV, bbeq_self]
  | y :: l, h => by
    unfold findV at h
    show (if k == y.1 then some y.2 else findV k (l ++ [(k, v)])) = some v
    cases hk : k == y.1
    · rw [hk] at h
      simpa using findV_new v (l := l) (by simpa using h)
    · rw [hk] at h
      simp at h

/-- What the keys are. -/
def KeysIs (B n : Nat) (ao : Option Addr) (K : Nat → ByteArray) (w0 : World) : Prop :=
  ∀ j, j < n → ∃ b off, ao = some ⟨b, off, none⟩ ∧ b < B ∧ w0.cell? ⟨b, off + j, none⟩ = some (.string (K j))

/-- AFTER i ROUNDS: the map in block B holds l, the pool lies in B + 1, 'got' in B + 2; each entry of l leads to a fresh state of its key; l's keys are just the first i keys; got's first i cells are what the map holds at those keys. -/
structure Scr (B n : Nat) (q : Int) (K : Nat → ByteArray) (C : Array Value) (w0 w : World) (i : Nat) (l : List (ByteArray × Value)) : Prop where
  below : Below B w0 w
  size : B + 3 ≤ w.heap.size
  map : MapIs w B l
  pool : w.heap[B + 1]? = some (.cells C 88)
  got : w.rowIs (B + 2) 89 n (fun j => if j < i then (findV (K j) l).getD (.pointer none) else .pointer none)
  fresh : ∀ x ∈ l, ∃ g, x.2 = .pointer (some ⟨g, 0, none⟩) ∧ B + 3 ≤ g ∧ w.heap[g]? = some (.cells (KS x.1 q) 95)
  has : ∀ j, j < i → (findV (K j) l).isSome = true
  only : ∀ x ∈ l, ∃ j, j < i ∧ K j = x.1
  len : l.length ≤ i

section
variable {B n : Nat} {q : Int} {K : Nat → ByteArray} {C : Array Value} {w0 w : World} {i : Nat} {l : List (ByteArray × Value)}

/-- A step that turns no block that is there. -/
theorem Scr.later (h : Scr B n q K C w0 w i l) {w' : World} (hb : Below w.heap.size w w') : Scr B n q K C w0 w' i l := by
  have hz := h.size
  refine ⟨h.below.trans (hb.mono (by omega)), by have := hb.size; omega, (hb.block B (by omega)).trans h.map, (hb.block _ (by omega)).trans h.pool, h.got.of_block (hb.block _ (by omega)), ?_, h.has, h.only, h.len⟩
  intro x hx
  obtain ⟨g, h1, h2, h3⟩ := h.fresh x hx
  exact ⟨g, h1, h2, (hb.block g (Array.getElem?_eq_some_iff.1 h3).1).trans h3⟩

/-- The state of a key that is filed. -/
theorem Scr.state (h : Scr B n q K C w0 w i l) {k : ByteArray} {v : Value} (hk : findV k l = some v) : ∃ g, v = .pointer (some ⟨g, 0, none⟩) ∧ B + 3 ≤ g ∧ w.heap[g]? = some (.cells (KS k q) 95) := by
  obtain ⟨x, h1, rfl, rfl⟩ := findV_mem hk
  exact h.fresh x h1

/-- A key that came before: got[i] is written. -/
theorem Scr.old (h : Scr B n q K C w0 w i l) {v : Value} (hk : findV (K i) l = some v) : Scr B n q K C w0 (w.setCell ⟨B + 2, i, none⟩ v) (i + 1) l := by
  refine ⟨h.below.setCell (by simp) _, by have := h.size; simp [World.setCell]; omega, ?_, ?_, ?_, ?_, ?_, ?_, by have := h.len; omega⟩
  · exact (Below.heap_setCell _ _ _ _ (by simp)).trans h.map
  · exact (Below.heap_setCell _ _ _ _ (by simp)).trans h.pool
  · refine (h.got.set i v).congr fun j _ => ?_
    by_cases e : j = i
    · subst e; simp [hk]
    · simp only [if_neg e]
      by_cases e' : j < i
      · rw [if_pos e', if_pos (by omega)]
      · rw [if_neg e', if_neg (by omega)]
  · intro x hx
    obtain ⟨g, h1, h2, h3⟩ := h.fresh x hx
    exact ⟨g, h1, h2, (Below.heap_setCell _ _ _ _ (by simp; omega)).trans h3⟩
  · intro j hj
    by_cases e : j = i
    · subst e; rw [hk]; rfl
    · exact h.has j (by omega)
  · intro x hx
    obtain ⟨j, h1, h2⟩ := h.only x hx
    exact ⟨j, by omega, h2⟩

/-- A key that is new: keyOf has filed its state, then got[i] is written. -/
theorem Scr.new (h : Scr B n q K C w0 w i l) (hk : findV (K i) l = none) {w' : World} (hs : w'.heap[w.heap.size]? = some (.cells (KS (K i) q) 95)) (hm : MapIs w' B (l ++ [(K i, Value.pointer (some ⟨w.heap.size, 0, none⟩))])) (hg : w.grownBy w' (some B)) :
    Scr B n q K C w0 (w'.setCell ⟨B + 2, i, none⟩ (.pointer (some ⟨w.heap.size, 0, none⟩))) (i + 1) (l ++ [(K i, Value.pointer (some ⟨w.heap.size, 0, none⟩))]) := by
  have hz := h.size
  have hz' := hg.size
  have bl : ∀ j, j < w.heap.size → j ≠ B → w'.heap[j]? = w.heap[j]? := fun j hj hne => hg.block j hj (by simpa using hne)
  refine ⟨(h.below.grown hg (by omega) (by intro k hk; simp at hk; omega)).setCell (by simp) _, by simp [World.setCell]; omega, ?_, ?_, ?_, ?_, ?_, ?_, by have := h.len; simp; omega⟩
  · exact (Below.heap_setCell _ _ _ _ (by simp)).trans hm
  · exact (Below.heap_setCell _ _ _ _ (by simp)).trans ((bl _ (by omega) (by omega)).trans h.pool)
  · refine ((h.got.of_block (bl _ (by omega) (by omega))).set i _).congr fun j _ => ?_
    by_cases e : j = i
    · subst e; simp [findV_new _ hk]
    · simp only [if_neg e]
      by_cases e' : j < i
      · rw [if_pos e', if_pos (by omega)]
        obtain ⟨v, hv⟩ := Option.isSome_iff_exists.1 (h.has j e')
        rw [hv, findV_old _ hv]
      · rw [if_neg e', if_neg (by omega)]
  · intro x hx
    rcases List.mem_append.1 hx with hx | hx
    · obtain ⟨g, h1, h2, h3⟩ := h.fresh x hx
      exact ⟨g, h1, h2, (Below.heap_setCell _ _ _ _ (by simp; omega)).trans ((bl g (Array.getElem?_eq_some_iff.1 h3).1 (by omega)).trans h3)⟩
    · simp at hx
      subst hx
      exact ⟨w.heap.size, rfl, by omega, (Below.heap_setCell _ _ _ _ (by simp; omega)).trans hs⟩
  · intro j hj
    by_cases e : j = i
    · subst e; rw [findV_new _ hk]; rfl
    · obtain ⟨v, hv⟩ := Option.isSome_iff_exists.1 (h.has j (by omega))
      rw [findV_old _ hv]; rfl
  · intro x hx
    rcases List.mem_append.1 hx with hx | hx
    · obtain ⟨j, h1, h2⟩ := h.only x hx
      exact ⟨j, by omega, h2⟩
    · simp at hx
      subst hx
      exact ⟨i, by omega, rfl⟩

theorem Scr.cP (h : Scr B n q K C w0 w i l) {o : Nat} {v : Value} (hC : C[o]? = some v) : w.cell? ⟨B + 1, o, none⟩ = some v := by
  simp [World.cell?, h.pool, hC]

theorem Scr.none_of (h : Scr B n q K C w0 w i l) (hne : ∀ j, j < i → K j ≠ K i) : findV (K i) l = none := by
  refine findV_none fun x hx e => ?_
  obtain ⟨j, h1, h2⟩ := h.only x hx
  exact hne j h1 (h2.trans e)

theorem Scr.some_of (h : Scr B n q K C w0 w i l) {j : Nat} (hj : j < i) (e : K j = K i) : ∃ v, findV (K i) l = some v := by
  rw [← e]
  exact Option.isSome_iff_exists.1 (h.has j hj)
end
end Go.Proofs.Ybulkajye
