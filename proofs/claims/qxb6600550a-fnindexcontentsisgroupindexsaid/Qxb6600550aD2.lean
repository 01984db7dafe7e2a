import Derived.Test.Qxb6600550aD1
namespace Go.Proofs.Qxb6600550a.Rad
open Go.RowKit Go.Proofs.Qxb6600550a.Idx

/-- Three cells stored from cell o of block g on. -/
def put3 (w : World) (g o : Nat) (u0 u1 u2 : Value) : World := ((w.setCell ⟨g, o, none⟩ u0).setCell ⟨g, o + 1, none⟩ u1).setCell ⟨g, o + 2, none⟩ u2
theorem put3_other (w : World) (g o : Nat) (u0 u1 u2 : Value) (k : Nat) (h : k ≠ g) : (put3 w g o u0 u1 u2).heap[k]? = w.heap[k]? :=
  (heap_setCell_other _ _ _ _ h).trans ((heap_setCell_other _ _ _ _ h).trans (heap_setCell_other _ _ _ _ h))
theorem Below.put3 {B : Nat} {w0 w : World} (h : Below B w0 w) {g : Nat} (hg : B ≤ g) (o : Nat) (u0 u1 u2 : Value) : Below B w0 (Rad.put3 w g o u0 u1 u2) :=
  ((h.setCell hg _).setCell hg _).setCell hg _

/-- Block g is a row of n elements of three cells each, of type e; the first k are vs. -/
structure Tri (w : World) (g n : Nat) (e : TypeId) (vs : List (Value × Value × Value)) : Prop where
  row : ∃ arr : Array Value, w.heap[g]? = some (.cells arr e (0, 0)) ∧ arr.size = n * 3 ∧ ∀ j v, vs[j]? = some v → arr[j * 3]? = some v.1 ∧ arr[j * 3 + 1]? = some v.2.1 ∧ arr[j * 3 + 2]? = some v.2.2
  le : vs.length ≤ n
theorem Tri.of_heap {w w' : World} {g n : Nat} {e : TypeId} {vs : List (Value × Value × Value)} (h : Tri w g n e vs) (he : w'.heap[g]? = w.heap[g]?) : Tri w' g n e vs := by
  obtain ⟨⟨arr, h1, h2⟩, h3⟩ := h
  exact ⟨⟨arr, he.trans h1, h2⟩, h3⟩
theorem Tri.lt {w : World} {g n : Nat} {e : TypeId} {vs : List (Value × Value × Value)} (h : Tri w g n e vs) : g < w.heap.size := by
  obtain ⟨⟨arr, h1, _⟩, _⟩ := h
  exact (Array.getElem?_eq_some_iff.1 h1).1
theorem Tri.cells {w : World} {g n : Nat} {e : TypeId} {vs : List (Value × Value × Value)} (h : Tri w g n e vs) {j : Nat} {v : Value × Value × Value} (hj : vs[j]? = some v) :
    w.cell? ⟨g, j * 3, none⟩ = some v.1 ∧ w.cell? ⟨g, j * 3 + 1, none⟩ = some v.2.1 ∧ w.cell? ⟨g, j * 3 + 2, none⟩ = some v.2.2 := by
  obtain ⟨⟨arr, h1, h2, h3⟩, _⟩ := h
  obtain ⟨a, b, c⟩ := h3 j v hj
  exact ⟨by rw [cell_of_row w g _ arr e (0, 0) h1]; exact a, by rw [cell_of_row w g _ arr e (0, 0) h1]; exact b, by rw [cell_of_row w g _ arr e (0, 0) h1]; exact c⟩
/-- The cells of the next element are there, and may be written. -/
theorem Tri.next {w : World} {g n : Nat} {e : TypeId} {vs : List (Value × Value × Value)} (h : Tri w g n e vs) {j : Nat} (hj : j < n) : ∃ u0 u1 u2, w.cell? ⟨g, j * 3, none⟩ = some u0 ∧ w.cell? ⟨g, j * 3 + 1, none⟩ = some u1 ∧ w.cell? ⟨g, j * 3 + 2, none⟩ = some u2 ∧ ∀ i, w.frozen? ⟨g, i, none⟩ = false := by
  obtain ⟨⟨arr, h1, h2, h3⟩, _⟩ := h
  refine ⟨arr[j * 3]'(by omega), arr[j * 3 + 1]'(by omega), arr[j * 3 + 2]'(by omega), ?_, ?_, ?_, fun i => frozen_of_row w g i arr e h1⟩
  all_goals
    rw [cell_of_row w g _ arr e (0, 0) h1]
    exact Array.getElem?_eq_getElem _
theorem Tri.put {w : World} {g n : Nat} {e : TypeId} {vs : List (Value × Value × Value)} (h : Tri w g n e vs) (hj : vs.length < n) (u0 u1 u2 : Value) : Tri (put3 w g (vs.length * 3) u0 u1 u2) g n e (vs ++ [(u0, u1, u2)]) := by
  obtain ⟨⟨arr, h1, h2, h3⟩, h4⟩ := h
  have e1 := heap_setCell_same w g (vs.length * 3) arr e u0 h1
  have e2 := heap_setCell_same _ g (vs.length * 3 + 1) _ e u1 e1
  have e3 := heap_setCell_same _ g (vs.length * 3 + 2) _ e u2 e2
  refine ⟨⟨_, e3, by simp [h2], fun j v hv => ?_⟩, by simp; omega⟩
  by_cases hjl : j < vs.length
  · rw [List.getElem?_append_left hjl] at hv
    obtain ⟨a, b, c⟩ := h3 j v hv
    refine ⟨?_, ?_, ?_⟩
    · rw [Array.getElem?_setIfInBounds_ne (by omega), Array.getElem?_setIfInBounds_ne (by omega), Array.getElem?_setIfInBounds_ne (by omega)]; exact a
    · rw [Array.getElem?_setIfInBounds_ne (by omega), Array.getElem?_setIfInBounds_ne (by omega), Array.getElem?_setIfInBounds_ne (by omega)]; exact b
    · rw [Array.getElem?_setIfInBounds_ne (by omega), Array.getElem?_setIfInBounds_ne (by omega), Array.getElem?_setIfInBounds_ne (by omega)]; exact c
  · have hl : j < vs.length + 1 := by have := (List.getElem?_eq_some_iff.1 hv).1; simpa using this
    obtain rfl : j = vs.length := by omega
    simp at hv; subst hv
    refine ⟨?_, ?_, ?_⟩
    · rw [Array.getElem?_setIfInBounds_ne (by omega), Array.getElem?_setIfInBounds_ne (by omega), Array.getElem?_setIfInBounds_self_of_lt (by omega)]
    · rw [Array.getElem?_setIfInBounds_ne (by omega), Array.getElem?_setIfInBounds_self_of_lt (by simp; omega)]
    · rw [Array.getElem?_setIfInBounds_self_of_lt (by simp; omega)]
end Go.Proofs.Qxb6600550a.Rad
