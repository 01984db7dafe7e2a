import Derived.Test.Qxb6600495aN1
namespace Go.Proofs.Qxb6600495a.Nodes
open Go.RowKit

/-- A chunk: its block, its length in nodes, its cells. -/
structure Chunk where
  g : Nat
  L : Nat
  xs : Array Value

def Chunk.val (c : Chunk) : Value := .slice (some ⟨c.g, 0, none⟩) c.L c.L
def Chunk.At (B : Nat) (w : World) (c : Chunk) : Prop := B ≤ c.g ∧ w.heap[c.g]? = some (.cells c.xs 39 (0, 0)) ∧ c.xs.size = c.L * 7 ∧ ∀ u ∈ c.xs, u.oneCell' = true

def Store (B : Nat) (w : World) (p n : Nat) (cs : List Chunk) : Prop :=
  ∃ v, B ≤ p ∧ w.heap[p]? = some (.cells #[v, .int .i32 n] 51 (0, 0)) ∧ w.ownsRow B 53 1 v cs.length (cs.map Chunk.val) ∧ (∀ c ∈ cs, c.At B w) ∧ (cs.map Chunk.g).Nodup

theorem ownsRow_heap {w w' : World} {B e s n : Nat} {v : Value} {xs : List Value} (h : w.ownsRow B e s v n xs) (hb : ∀ g, v.ownBlock = some g → w'.heap[g]? = w.heap[g]?) : w'.ownsRow B e s v n xs := by
  obtain ⟨h1, h2⟩ := h
  refine ⟨h1, ?_⟩
  rcases h2 with h2 | ⟨g, cap, cur, rfl, hg, hh, r⟩
  · exact .inl h2
  · exact .inr ⟨g, cap, cur, rfl, hg, by rw [hb g rfl]; exact hh, r⟩

theorem Store.of_heap {B : Nat} {w w' : World} {p n : Nat} {cs : List Chunk} (h : Store B w p n cs) (e : w'.heap = w.heap) : Store B w' p n cs := by
  obtain ⟨v, h1, h2, h3, h4, h5⟩ := h
  refine ⟨v, h1, by rw [e]; exact h2, ownsRow_heap h3 (fun g _ => by rw [e]), fun c hc => ?_, h5⟩
  obtain ⟨a, b, r⟩ := h4 c hc
  exact ⟨a, by rw [e]; exact b, r⟩

/-- The blocks of the store: the struct's, the row's, the chunks'. -/
theorem Store.row_ne {B : Nat} {w : World} {p n m : Nat} {v : Value} {xs : List Value} (h2 : w.heap[p]? = some (.cells #[v, .int .i32 n] 51 (0, 0))) (h3 : w.ownsRow B 53 1 v m xs) : v.ownBlock ≠ some p := by
  rcases h3.2 with ⟨rfl, _⟩ | ⟨g, cap, cur, rfl, hg, hh, _⟩
  · simp [Value.ownBlock]
  · simp only [Value.ownBlock, ne_eq, Option.some.injEq]
    rintro rfl
    rw [hh] at h2
    simp at h2

theorem Chunk.At.ne {B : Nat} {w : World} {p t : Nat} {c : Chunk} {a : Array Value} (h : c.At B w) (hp : w.heap[p]? = some (.cells a t (0, 0))) (ht : t ≠ 39) : c.g ≠ p := by
  rintro rfl
  rw [h.2.1] at hp
  simp at hp
  exact ht hp.2.symm

theorem Store.lt {B : Nat} {w : World} {p n : Nat} {cs : List Chunk} (h : Store B w p n cs) : p < w.heap.size ∧ B ≤ p := by
  obtain ⟨v, h1, h2, _⟩ := h
  exact ⟨(Array.getElem?_eq_some_iff.1 h2).1, h1⟩

theorem below_same {B : Nat} {w s w' : World} (h : Below B w s) (hs : Same s w') : Below B w w' :=
  h.trans ⟨hs.2.1, hs.2.2.1, hs.2.2.2, by rw [hs.1]; exact Nat.le_refl _, fun k _ => by rw [hs.1]⟩

/-- Only the count turns. -/
theorem store_count {B : Nat} {w : World} {p n m : Nat} {cs : List Chunk} (h : Store B w p n cs) : Store B (w.setCell ⟨p, 1, none⟩ (.int .i32 m)) p m cs := by
  obtain ⟨v, h1, h2, h3, h4, h5⟩ := h
  have hr := Store.row_ne h2 h3
  refine ⟨v, h1, ?_, ownsRow_heap h3 (fun g hg => heap_setCell_other _ _ _ _ (fun e => hr (by rw [hg]; exact congrArg some e))), fun c hc => ?_, h5⟩
  · rw [heap_setCell_same w p 1 _ 51 _ h2]; rfl
  · have hc4 := h4 c hc
    have hn := hc4.ne h2 (by decide)
    exact ⟨hc4.1, by rw [heap_setCell_other _ _ _ _ hn]; exact hc4.2.1, hc4.2.2⟩


theorem owns_lt {w : World} {B e s n g : Nat} {v : Value} {xs : List Value} (h : w.ownsRow B e s v n xs) (hg : v.ownBlock = some g) : ∃ cur, w.heap[g]? = some (.cells cur e (0, 0)) ∧ B ≤ g ∧ g < w.heap.size := by
  rcases h.2 with ⟨rfl, _⟩ | ⟨g', cap, cur, rfl, hb, hh, _⟩
  · simp [Value.ownBlock] at hg
  · simp [Value.ownBlock] at hg
    subst hg
    exact ⟨cur, hh, hb, (Array.getElem?_eq_some_iff.1 hh).1⟩

theorem store_new {B : Nat} {w w1 : World} {p n g cap : Nat} {cs : List Chunk} {v : Value} {Z : Array Value} (hB : B ≤ p) (h2 : w.heap[p]? = some (.cells #[v, .int .i32 n] 51 (0, 0)))
    (h3 : w.ownsRow B 53 1 v cs.length (cs.map Chunk.val)) (h4 : ∀ c ∈ cs, c.At B w) (h5 : (cs.map Chunk.g).Nodup) (hZ : Z.size = 4096 * 7) (hZ1 : ∀ u ∈ Z, u.oneCell' = true)
    (ho : w1.ownsRow B 53 1 (.slice (some ⟨g, 0, none⟩) (cs.length + 1) cap) (cs.length + 1) (cs.map Chunk.val ++ [.slice (some ⟨w.heap.size, 0, none⟩) 4096 4096]))
    (hg : ((w.alloc (.cells Z 39)).alloc (.cells #[.slice (some ⟨w.heap.size, 0, none⟩) 4096 4096] 53)).grownBy w1 v.ownBlock) (hat : v.ownBlock = some g ∨ g = w.heap.size + 2) (m : Int) (M : Nat) (hm : m = (M : Int)) :
    Store B ((w1.setCell ⟨p, 0, none⟩ (.slice (some ⟨g, 0, none⟩) (cs.length + 1) cap)).setCell ⟨p, 1, none⟩ (.int .i32 m)) p M (cs ++ [⟨w.heap.size, 4096, Z⟩]) ∧
      Below B w ((w1.setCell ⟨p, 0, none⟩ (.slice (some ⟨g, 0, none⟩) (cs.length + 1) cap)).setCell ⟨p, 1, none⟩ (.int .i32 m)) := by
  subst hm
  have hp : p < w.heap.size := (Array.getElem?_eq_some_iff.1 h2).1
  have hr := Store.row_ne h2 h3
  have hgp : g ≠ p := ne_of_at hr hat (by omega)
  have old : ∀ k, k < w.heap.size → some k ≠ v.ownBlock → w1.heap[k]? = w.heap[k]? := fun k hk hne => by
    rw [hg.block k (by simp; omega) hne, Below.heap_alloc _ _ _ (by simp; omega), Below.heap_alloc _ _ _ hk]
  have e2 : w1.heap[p]? = some (.cells #[v, .int .i32 n] 51 (0, 0)) := (old p hp (fun e => hr e.symm)).trans h2
  have e3 := heap_setCell_same w1 p 0 _ 51 (.slice (some ⟨g, 0, none⟩) (cs.length + 1) cap) e2
  have e4 := heap_setCell_same _ p 1 _ 51 (.int .i32 (M : Int)) e3
  have oth : ∀ k, k ≠ p → ((w1.setCell ⟨p, 0, none⟩ (.slice (some ⟨g, 0, none⟩) (cs.length + 1) cap)).setCell ⟨p, 1, none⟩ (.int .i32 (M : Int))).heap[k]? = w1.heap[k]? := fun k hk => by
    rw [heap_setCell_other _ _ _ _ (by exact hk), heap_setCell_other _ _ _ _ (by exact hk)]
  refine ⟨⟨.slice (some ⟨g, 0, none⟩) (cs.length + 1) cap, hB, ?_, ?_, ?_, ?_⟩, ?_⟩
  · rw [e4]; rfl
  · have := ownsRow_heap ho (w' := (w1.setCell ⟨p, 0, none⟩ (.slice (some ⟨g, 0, none⟩) (cs.length + 1) cap)).setCell ⟨p, 1, none⟩ (.int .i32 (M : Int))) (fun k hk => oth k (by simp [Value.ownBlock] at hk; omega))
    simpa [Chunk.val] using this
  · intro c hc
    rcases List.mem_append.1 hc with hc | hc
    · have a := h4 c hc
      have hlt : c.g < w.heap.size := (Array.getElem?_eq_some_iff.1 a.2.1).1
      refine ⟨a.1, ?_, a.2.2⟩
      rw [oth _ (a.ne h2 (by decide)), old _ hlt]
      · exact a.2.1
      · intro e
        obtain ⟨cur, hh, _⟩ := owns_lt h3 e.symm
        exact a.ne hh (by decide) rfl
    · simp at hc
      subst hc
      refine ⟨by simp; omega, ?_, hZ, hZ1⟩
      rw [oth _ (by simp; omega), hg.block _ (by simp; omega)]
      · exact heap_alloc2_old w _ _
      · intro e
        obtain ⟨cur, _, _, hh⟩ := owns_lt h3 e.symm
        simp at hh
  · rw [List.map_append]
    refine List.nodup_append.2 ⟨h5, by simp, ?_⟩
    intro a ha b hb
    simp at hb
    obtain ⟨c, hc, rfl⟩ := List.mem_map.1 ha
    have hlt : c.g < w.heap.size := (Array.getElem?_eq_some_iff.1 (h4 c hc).2.1).1
    omega
  · refine Below.setCell (Below.setCell ?_ hB _) hB _
    refine ⟨hg.os, hg.tape, hg.output, ?_, fun k hk => old k (by omega) ?_⟩
    · have := hg.size; simp at this; omega
    · intro e
      obtain ⟨cur, _, hh, _⟩ := owns_lt h3 e.symm
      omega

theorem store_grow {B : Nat} {w w2 : World} {p n k L M : Nat} {cs : List Chunk} {b cap : Nat} {X : Array Value} (hB : B ≤ p) (h2 : w.heap[p]? = some (.cells #[.slice (some ⟨b, 0, none⟩) cs.length cap, .int .i32 n] 51 (0, 0)))
    (h3 : w.ownsRow B 53 1 (.slice (some ⟨b, 0, none⟩) cs.length cap) cs.length (cs.map Chunk.val)) (h4 : ∀ c ∈ cs, c.At B w) (h5 : (cs.map Chunk.g).Nodup)
    (hX : X.size = L * 7) (hX1 : ∀ u ∈ X, u.oneCell' = true)
    (hz : w2.heap[w.heap.size]? = some (.cells X 39 (0, 0))) (hg : w.grownBy w2 none) (m : Int) (hm : m = (M : Int)) :
    Store B ((w2.setCell ⟨b, k, none⟩ (.slice (some ⟨w.heap.size, 0, none⟩) L L)).setCell ⟨p, 1, none⟩ (.int .i32 m)) p M (cs.set k ⟨w.heap.size, L, X⟩) ∧
      Below B w ((w2.setCell ⟨b, k, none⟩ (.slice (some ⟨w.heap.size, 0, none⟩) L L)).setCell ⟨p, 1, none⟩ (.int .i32 m)) := by
  subst hm
  have hp : p < w.heap.size := (Array.getElem?_eq_some_iff.1 h2).1
  have hr : b ≠ p := by simpa [Value.ownBlock] using Store.row_ne h2 h3
  obtain ⟨cur, hb, hbB, hblt⟩ := owns_lt h3 (g := b) rfl
  have old : ∀ k, k < w.heap.size → w2.heap[k]? = w.heap[k]? := fun k hk => hg.block k hk (by simp)
  have e2 : w2.heap[p]? = some (.cells #[.slice (some ⟨b, 0, none⟩) cs.length cap, .int .i32 n] 51 (0, 0)) := (old p hp).trans h2
  have e3 : (w2.setCell ⟨b, k, none⟩ (.slice (some ⟨w.heap.size, 0, none⟩) L L)).heap[p]? = _ := (heap_setCell_other _ _ _ _ (by exact fun e => hr e.symm)).trans e2
  have e4 := heap_setCell_same _ p 1 _ 51 (.int .i32 (M : Int)) e3
  have oth : ∀ i, i ≠ p → i ≠ b → ((w2.setCell ⟨b, k, none⟩ (.slice (some ⟨w.heap.size, 0, none⟩) L L)).setCell ⟨p, 1, none⟩ (.int .i32 (M : Int))).heap[i]? = w2.heap[i]? := fun i hi hi' => by
    rw [heap_setCell_other _ _ _ _ (by exact hi), heap_setCell_other _ _ _ _ (by exact hi')]
  refine ⟨⟨.slice (some ⟨b, 0, none⟩) cs.length cap, hB, ?_, ?_, ?_, ?_⟩, ?_⟩
  · rw [e4]; rfl
  · have h3' := ownsRow_heap h3 (w' := w2) (fun g hg => by simp [Value.ownBlock] at hg; subst hg; exact old _ hblt)
    have h6 := (h3'.stored k (.slice (some ⟨w.heap.size, 0, none⟩) L L)).1
    have h7 := ownsRow_heap h6 (w' := (w2.setCell ⟨b, k, none⟩ (.slice (some ⟨w.heap.size, 0, none⟩) L L)).setCell ⟨p, 1, none⟩ (.int .i32 (M : Int))) (fun g hg => by simp [Value.ownBlock] at hg; subst hg; exact heap_setCell_other _ _ _ _ (by exact hr))
    simpa [Chunk.val, List.map_set] using h7
  · intro c hc
    rcases List.mem_or_eq_of_mem_set hc with hc | rfl
    · have a := h4 c hc
      have hlt : c.g < w.heap.size := (Array.getElem?_eq_some_iff.1 a.2.1).1
      refine ⟨a.1, ?_, a.2.2⟩
      rw [oth _ (a.ne h2 (by decide)) (a.ne hb (by decide)), old _ hlt]
      exact a.2.1
    · refine ⟨by simp; omega, ?_, hX, hX1⟩
      rw [oth _ (by simp; omega) (by simp; omega)]
      exact hz
  · rw [List.map_set]
    have hfresh : ∀ a ∈ cs.map Chunk.g, a < w.heap.size := by
      intro a ha
      obtain ⟨c, hc, rfl⟩ := List.mem_map.1 ha
      exact (Array.getElem?_eq_some_iff.1 (h4 c hc).2.1).1
    rw [List.Nodup, List.pairwise_iff_getElem] at h5 ⊢
    intro i j hi hj hij
    simp only [List.length_set] at hi hj
    have hi' := hfresh _ (List.getElem_mem hi)
    have hj' := hfresh _ (List.getElem_mem hj)
    simp only [List.getElem_set]
    split
    · split
      · omega
      · omega
    · split
      · omega
      · exact h5 i j hi hj hij
  · refine Below.setCell (Below.setCell ?_ hbB _) hB _
    exact ⟨hg.os, hg.tape, hg.output, hg.size, fun k hk => old k (by omega)⟩

end Go.Proofs.Qxb6600495a.Nodes
