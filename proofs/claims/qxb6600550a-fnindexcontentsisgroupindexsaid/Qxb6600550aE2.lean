import Derived.Test.Qxb6600550aE1
namespace Go.Proofs.Qxb6600550a.Rad
open Go.RowKit Go.Proofs.Qxb6600550a.Idx

abbrev nl : Value := .slice none 0 0
/-- The world behind the index' own box. -/
def W1 (w : World) : World := ((w.alloc (.map #[] 0)).alloc (.map #[] 0)).alloc (.cells (ixc nl nl nl w.heap.size (w.heap.size + 1) nl nl) 83)
theorem ix_start {w wr wq : World} {kB N : Nat} (h1 : Below (w.heap.size + 3) (W1 w) wr) (hq : Below (wr.heap.size + 1) (wr.alloc (.cells #[m1] 21)) wq) (hk : VRow wq kB N 21 (fun _ => m1)) (hkb : wr.heap.size + 1 ≤ kB) :
    IxSt w (wq.alloc (.cells #[] 21)) (w.heap.size + 2) w.heap.size (w.heap.size + 1) kB N (ixc nl nl nl w.heap.size (w.heap.size + 1) nl nl) Ix.none nl (.slice (some ⟨wq.heap.size, 0, none⟩) 0 0) := by
  have s1 : (W1 w).heap.size = w.heap.size + 3 := by simp [W1]
  have hs := h1.size
  rw [s1] at hs
  have hqs := hq.size
  simp at hqs
  have e : ∀ k, k < w.heap.size + 3 → (wq.alloc (.cells #[] 21)).heap[k]? = (W1 w).heap[k]? := fun k hk =>
    (Below.heap_alloc _ _ _ (by omega)).trans ((hq.block k (by omega)).trans ((Below.heap_alloc _ _ _ (by omega)).trans (h1.block k hk)))
  have eo : ∀ k, k < w.heap.size → (W1 w).heap[k]? = w.heap[k]? := fun k hk => by
    unfold W1
    rw [Below.heap_alloc _ _ _ (by simp; omega), Below.heap_alloc _ _ _ (by simp; omega), Below.heap_alloc _ _ _ hk]
  have em : (W1 w).heap[w.heap.size]? = (w.alloc (.map #[] 0)).heap[w.heap.size]? := by
    unfold W1
    rw [Below.heap_alloc _ _ _ (by simp; omega), Below.heap_alloc _ _ _ (by simp)]
  have em2 : (W1 w).heap[w.heap.size + 1]? = ((w.alloc (.map #[] 0)).alloc (.map #[] 0)).heap[w.heap.size + 1]? := by
    unfold W1
    rw [Below.heap_alloc _ _ _ (by simp)]
  have eb : (W1 w).heap[w.heap.size + 2]? = some (.cells (ixc nl nl nl w.heap.size (w.heap.size + 1) nl nl) 83 (0, 0)) := by
    have := heap_alloc_new ((w.alloc (.map #[] 0)).alloc (.map #[] 0)) (.cells (ixc nl nl nl w.heap.size (w.heap.size + 1) nl nl) 83)
    rw [show ((w.alloc (.map #[] 0)).alloc (.map #[] 0)).heap.size = w.heap.size + 2 by simp] at this
    exact this
  refine ⟨⟨?_, (e _ (by omega)).trans eb, (hk.of_heap (Below.heap_alloc _ _ _ hk.lt)).congr (fun i _ => rfl), ?_, ⟨fun _ => none, ?_, fun _ _ => rfl, fun r hr => absurd rfl hr, fun r r' v v' g hv => by cases hv⟩, by omega, by omega, by omega, by omega, by omega⟩, World.ownsRow_nil _ _ _ _, ?_, ?_⟩
  · refine ⟨hq.os.trans h1.os, hq.tape.trans h1.tape, hq.output.trans h1.output, by simp; omega, fun k hk => (e k (by omega)).trans (eo k hk)⟩
  · have := IMap.made (w.alloc (.map #[] 0)) .i64
    rw [show (w.alloc (.map #[] 0)).heap.size = w.heap.size + 1 by simp] at this
    exact (this.of_heap ((e _ (by omega)).trans em2)).congr (fun _ => rfl)
  · exact (IMap.made w .i32).of_heap ((e _ (by omega)).trans em)
  · exact ⟨rfl, .inr ⟨_, 0, #[], rfl, by omega, heap_alloc_new wq _, Nat.le_refl _, by unfold maxLen; omega, rfl, rfl⟩⟩
  · intro e
    have : wq.heap.size = kB := by simpa [Value.ownBlock] using e
    have := hk.lt
    omega

theorem hd_len (k : Int) (chs : List Ch) (r : Int) : ∀ hd : Hd, ((chs.foldl (Hd.step k) hd).h r).length ≤ (hd.h r).length + chs.length := by
  induction chs with
  | nil => intro hd; simp
  | cons c q ih =>
    intro hd
    have h1 : ((hd.step k c).h r).length ≤ (hd.h r).length + 1 := by
      show (if r = c.1 then hd.h c.1 ++ [(k, c.2.1)] else hd.h r).length ≤ _
      by_cases he : r = c.1
      · rw [if_pos he, he]; simp
      · rw [if_neg he]; omega
    have := ih (hd.step k c)
    simp only [List.foldl_cons, List.length_cons]
    omega
theorem ix_len (ts : List Ct) (r : Int) (h : ∀ t ∈ ts, t.chs.length ≤ 65536) : ((ixOf ts).hd.h r).length ≤ ts.length * 65536 := by
  have key : ∀ (us : List Ct) (s : Ix), (∀ t ∈ us, t.chs.length ≤ 65536) → ((us.foldl Ix.step s).hd.h r).length ≤ (s.hd.h r).length + us.length * 65536 := by
    intro us
    induction us with
    | nil => intro s _; simp
    | cons u q ih =>
      intro s hu
      have h1 := ih (s.step u) (fun t ht => hu t (List.mem_cons_of_mem _ ht))
      have h2 : (((s.step u).hd.h r)).length ≤ (s.hd.h r).length + 65536 := by
        unfold Ix.step
        by_cases h0 : u.g = 0
        · rw [if_pos h0]; omega
        · rw [if_neg h0]
          by_cases hk : s.kindOf u.g < 0
          · rw [if_pos hk]
            have := hd_len s.kinds.length u.chs r s.hd
            have hu' := hu u (by simp)
            show ((u.chs.foldl (Hd.step s.kinds.length) s.hd).h r).length ≤ _
            omega
          · rw [if_neg hk]
            show (s.hd.h r).length ≤ _
            omega
      simp only [List.foldl_cons, List.length_cons]
      omega
  have := key ts Ix.none h
  simpa [ixOf, Ix.none] using this
end Go.Proofs.Qxb6600550a.Rad
