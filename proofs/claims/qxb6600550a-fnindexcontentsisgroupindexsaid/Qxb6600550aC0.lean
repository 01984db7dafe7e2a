import Derived.Maps.OwnSet
import Derived.Test.Qxb6600550aA1
namespace Go.Proofs.Qxb6600550a.Rad
open Go.RowKit Go.MapKept

/-- Block b is a map with keys of the integer kind q that holds f, n keys in all. -/
def IMap (w : World) (b : Nat) (q : IntKind) (f : Int → Option Value) (n : Nat) : Prop :=
  ∃ (es : Array MapEntry) (clock : Nat), w.heap[b]? = some (.map es clock) ∧ (∀ x ∈ es.toList, IsKey (.int q) x.key) ∧ es.toList.Pairwise (fun x y => x.key ≠ y.key) ∧
    (∀ a v, f a = some v ↔ ∃ x ∈ es.toList, x.key = .int q a ∧ x.val = v) ∧ es.size = n

theorem IMap.of_heap {w w' : World} {b : Nat} {q : IntKind} {f : Int → Option Value} {n : Nat} (h : IMap w b q f n) (e : w'.heap[b]? = w.heap[b]?) : IMap w' b q f n := by
  obtain ⟨es, cl, h1, h2⟩ := h
  exact ⟨es, cl, e.trans h1, h2⟩
theorem IMap.lt {w : World} {b : Nat} {q : IntKind} {f : Int → Option Value} {n : Nat} (h : IMap w b q f n) : b < w.heap.size := by
  obtain ⟨es, cl, h1, _⟩ := h
  exact (Array.getElem?_eq_some_iff.1 h1).1
theorem IMap.congr {w : World} {b : Nat} {q : IntKind} {f f' : Int → Option Value} {n : Nat} (h : IMap w b q f n) (e : ∀ a, f a = f' a) : IMap w b q f' n := by
  obtain ⟨es, cl, h1, h2, h3, h4, h5⟩ := h
  exact ⟨es, cl, h1, h2, h3, fun a v => by rw [← e a]; exact h4 a v, h5⟩
theorem IMap.made (w : World) (q : IntKind) : IMap (w.alloc (.map #[] 0)) w.heap.size q (fun _ => none) 0 :=
  ⟨#[], 0, (MapKept.heap_alloc w _).1, by simp, by simp, by simp, rfl⟩

/-- What m[x] finds. -/
theorem IMap.find {w : World} {b : Nat} {q : IntKind} {f : Int → Option Value} {n : Nat} (h : IMap w b q f n) (x : Int) : ∃ (es : Array MapEntry) (clock : Nat), w.heap[b]? = some (.map es clock) ∧
    ((f x = none ∧ Instr.findNow (.int q) (.int q x) es.toList 0 = some none) ∨ ∃ v j, f x = some v ∧ Instr.findNow (.int q) (.int q x) es.toList 0 = some (some (j, v))) := by
  obtain ⟨es, cl, h1, h2, h3, h4, h5⟩ := h
  refine ⟨es, cl, h1, ?_⟩
  rcases findNow_spec (d := .int q) (k := .int q x) rfl es.toList 0 h2 with ⟨g1, g2⟩ | ⟨j, e, g1, g2, g3⟩
  · refine .inl ⟨?_, g1⟩
    cases hf : f x with
    | none => rfl
    | some v =>
      obtain ⟨y, hy, hk, _⟩ := (h4 x v).1 hf
      exact absurd hk (g2 y hy)
  · exact .inr ⟨e.val, 0 + j, (h4 x e.val).2 ⟨e, List.mem_of_getElem? g2, g3, rfl⟩, g1⟩

theorem IMap.look {P : Program} {w : World} {b : Nat} {q : IntKind} {f : Int → Option Value} {n : Nat} {t k e : TypeId} {z : Value} (h : IMap w b q f n) (ht : P.underlying t = some (.map k e)) (hk : P.underlying k = some (.int q)) (hz : (zeroValue e).run P w = .ok z w) (x : Int) :
    (Instr.lookup t (.map (some b)) (.int q x) false).run P w = .ok ((f x).getD z) w := by
  obtain ⟨es, cl, h1, ⟨h2, h3⟩ | ⟨v, j, h2, h3⟩⟩ := h.find x
  · simp [Instr.lookup, run_underlying ht, MapKept.run_getObj_map h1, run_checkKey hk (k := .int q x) rfl, run_findKey hk h3, hz, Result.andThen, h2]
  · simp [Instr.lookup, run_underlying ht, MapKept.run_getObj_map h1, run_checkKey hk (k := .int q x) rfl, run_findKey hk h3, Result.andThen, h2]
theorem IMap.look_ok {P : Program} {w : World} {b : Nat} {q : IntKind} {f : Int → Option Value} {n : Nat} {t k e : TypeId} {z : Value} (h : IMap w b q f n) (ht : P.underlying t = some (.map k e)) (hk : P.underlying k = some (.int q)) (hz : (zeroValue e).run P w = .ok z w) (x : Int) :
    (Instr.lookup t (.map (some b)) (.int q x) true).run P w = .ok (.tuple #[(f x).getD z, .bool (f x).isSome]) w := by
  obtain ⟨es, cl, h1, ⟨h2, h3⟩ | ⟨v, j, h2, h3⟩⟩ := h.find x
  · simp [Instr.lookup, run_underlying ht, MapKept.run_getObj_map h1, run_checkKey hk (k := .int q x) rfl, run_findKey hk h3, hz, Result.andThen, h2]
  · simp [Instr.lookup, run_underlying ht, MapKept.run_getObj_map h1, run_checkKey hk (k := .int q x) rfl, run_findKey hk h3, Result.andThen, h2]

/-- Nothing but block b has turned. -/
structure But (b : Nat) (w w' : World) : Prop where
  os : w'.os = w.os
  tape : w'.tape = w.tape
  output : w'.output = w.output
  size : w'.heap.size = w.heap.size
  block : ∀ k, k ≠ b → w'.heap[k]? = w.heap[k]?

theorem IMap.store {P : Program} {w : World} {b : Nat} {q : IntKind} {f : Int → Option Value} {n : Nat} {t k e : TypeId} (h : IMap w b q f n) (ht : P.underlying t = some (.map k e)) (hk : P.underlying k = some (.int q)) (x : Int) (v : Value) :
    ∃ w', (Instr.mapUpdate t (.map (some b)) (.int q x) v).run P w = .ok () w' ∧ IMap w' b q (fun a => if a = x then some v else f a) (if (f x).isSome then n else n + 1) ∧ But b w w' := by
  obtain ⟨es, cl, h1, h2, h3, h4, h5⟩ := h
  rcases findNow_spec (d := .int q) (k := .int q x) rfl es.toList 0 h2 with ⟨g1, g2⟩ | ⟨j, e0, g1, g2, g3⟩
  · have hx : f x = none := by
      cases hf : f x with
      | none => rfl
      | some v =>
        obtain ⟨y, hy, hk, _⟩ := (h4 x v).1 hf
        exact absurd hk (g2 y hy)
    refine ⟨{ w with heap := w.heap.setIfInBounds b (.map (es.push ⟨.int q x, v, cl⟩) (cl + 1)) }, ?_, ⟨_, _, (heap_set h1).1, ?_, ?_, ?_, ?_⟩, ⟨rfl, rfl, rfl, by simp, fun k hk => (heap_set h1).2 k hk⟩⟩
    · simp [Instr.mapUpdate, run_underlying ht, MapKept.run_getObj_map h1, run_checkKey hk (k := .int q x) rfl, run_findKey hk g1, MapKept.run_setObj_map _ h1, Result.andThen]
    · intro y hy
      simp only [Array.toList_push, List.mem_append, List.mem_singleton] at hy
      rcases hy with hy | rfl
      · exact h2 y hy
      · rfl
    · rw [Array.toList_push, List.pairwise_append]
      exact ⟨h3, by simp, fun a ha c hc => by simp at hc; subst hc; exact g2 a ha⟩
    · intro a u
      simp only [Array.toList_push, List.mem_append, List.mem_singleton]
      by_cases ha : a = x
      · subst ha
        rw [if_pos rfl]
        constructor
        · intro e; exact ⟨_, .inr rfl, rfl, Option.some.inj e⟩
        · rintro ⟨y, hy | rfl, hk, hv⟩
          · exact absurd hk (g2 y hy)
          · rw [← hv]
      · rw [if_neg ha, h4 a u]
        constructor
        · rintro ⟨y, hy, hk, hv⟩; exact ⟨y, .inl hy, hk, hv⟩
        · rintro ⟨y, hy | rfl, hk, hv⟩
          · exact ⟨y, hy, hk, hv⟩
          · simp at hk; exact absurd hk.symm ha
    · rw [hx]; simp [h5]
  · have hj : es[j]? = some e0 := by simpa using g2
    have hx : f x = some e0.val := (h4 x e0.val).2 ⟨e0, List.mem_of_getElem? g2, g3, rfl⟩
    have hkey : ∀ e', es[j]? = some e' → ({ e' with key := .int q x, val := v } : MapEntry).key = e'.key := fun e' he' => by rw [hj] at he'; cases he'; exact g3.symm
    have hks := modify_keys (es := es) j (fun e => { e with key := .int q x, val := v }) hkey
    have hmem : ∀ y, y ∈ (es.modify j (fun e => { e with key := .int q x, val := v })).toList ↔ (y ∈ es.toList ∧ y.key ≠ .int q x) ∨ y = { e0 with key := .int q x, val := v } := by
      have hpw := List.pairwise_iff_getElem.1 h3
      intro y
      constructor
      · intro hy
        obtain ⟨i, hi⟩ := List.mem_iff_getElem?.1 hy
        rw [Array.getElem?_toList, Array.getElem?_modify] at hi
        by_cases hij : j = i
        · subst hij
          rw [if_pos rfl, hj] at hi
          exact .inr (Option.some.inj hi).symm
        · rw [if_neg hij] at hi
          have hi' : es.toList[i]? = some y := by simpa using hi
          refine .inl ⟨List.mem_of_getElem? hi', fun he => ?_⟩
          obtain ⟨l1, e1⟩ := List.getElem?_eq_some_iff.1 hi'
          obtain ⟨l2, e2⟩ := List.getElem?_eq_some_iff.1 g2
          rcases Nat.lt_or_gt_of_ne hij with hlt | hlt
          · have := hpw j i l2 l1 hlt
            rw [e1, e2, g3, he] at this
            exact this rfl
          · have := hpw i j l1 l2 hlt
            rw [e1, e2, g3, he] at this
            exact this rfl
      · rintro (⟨hy, hne⟩ | rfl)
        · obtain ⟨i, hi⟩ := List.mem_iff_getElem?.1 hy
          refine List.mem_of_getElem? (i := i) ?_
          rw [Array.getElem?_toList, Array.getElem?_modify, if_neg]
          · simpa using hi
          · rintro rfl
            rw [g2] at hi
            cases hi
            exact hne g3
        · refine List.mem_of_getElem? (i := j) ?_
          rw [Array.getElem?_toList, Array.getElem?_modify, if_pos rfl, hj]; rfl
    refine ⟨{ w with heap := w.heap.setIfInBounds b (.map (es.modify j fun e => { e with key := .int q x, val := v }) cl) }, ?_, ⟨_, _, (heap_set h1).1, isKey_modify h2 _ _ hkey, ?_, ?_, ?_⟩, ⟨rfl, rfl, rfl, by simp, fun k hk => (heap_set h1).2 k hk⟩⟩
    · simp [Instr.mapUpdate, run_underlying ht, MapKept.run_getObj_map h1, run_checkKey hk (k := .int q x) rfl, run_findKey hk g1, hj, g3, run_keyThatStays (d := .int q) (k := .int q x) rfl, MapKept.run_setObj_map _ h1, Result.andThen]
    · have h3' : (es.toList.map (·.key)).Pairwise (· ≠ ·) := List.pairwise_map.2 h3
      rw [← hks] at h3'
      exact List.pairwise_map.1 h3'
    · intro a u
      show (if a = x then some v else f a) = some u ↔ _
      by_cases ha : a = x
      · subst ha
        rw [if_pos rfl]
        constructor
        · intro e; exact ⟨_, (hmem _).2 (.inr rfl), rfl, Option.some.inj e⟩
        · rintro ⟨y, hy, hk, hv⟩
          rcases (hmem y).1 hy with ⟨_, hne⟩ | rfl
          · exact absurd hk hne
          · rw [← hv]
      · rw [if_neg ha, h4 a u]
        constructor
        · rintro ⟨y, hy, hk, hv⟩
          exact ⟨y, (hmem y).2 (.inl ⟨hy, by rw [hk]; simpa using ha⟩), hk, hv⟩
        · rintro ⟨y, hy, hk, hv⟩
          rcases (hmem y).1 hy with ⟨hy', _⟩ | rfl
          · exact ⟨y, hy', hk, hv⟩
          · simp at hk; exact absurd hk.symm ha
    · rw [hx]; simp [h5]

theorem IMap.len {P : Program} {w : World} {b : Nat} {q : IntKind} {f : Int → Option Value} {n : Nat} {t k e : TypeId} {ty : TypeId} (h : IMap w b q f n) (ht : P.underlying t = some (.map k e)) : (Builtin.len_ #[t] ty #[.map (some b)]).run P w = .ok (.int .i64 (n : Int)) w := by
  obtain ⟨es, cl, h1, h2, h3, h4, h5⟩ := h
  simp [Builtin.len_, run_underlying ht, MapKept.run_getObj_map h1, Result.andThen, h5, goInt]
end Go.Proofs.Qxb6600550a.Rad
