import Derived.Test.Qxb6600550aE4
namespace Go.Proofs.Qxb6600550a.Idx

theorem sum_set (l : List Int) : ∀ (i : Nat), (l.set i (l.getD i 0 + 1)).sum ≤ l.sum + 1 := by
  induction l with
  | nil => intro i; simp
  | cons a r ih =>
    intro i
    cases i with
    | zero => simp; omega
    | succ i =>
      have := ih i
      simp only [List.set_cons_succ, List.getD_cons_succ, List.sum_cons]
      omega
theorem sum_step (s : Ix) (t : Ct) : (s.step t).count.sum ≤ s.count.sum + 1 := by
  unfold Ix.step
  by_cases h0 : t.g = 0
  · rw [if_pos h0]; omega
  · rw [if_neg h0]
    by_cases hk : s.kindOf t.g < 0
    · rw [if_pos hk]
      have := sum_set (s.count ++ [0]) ((s.more t).kindOf t.g).toNat
      have e : (s.count ++ [0]).sum = s.count.sum := by simp
      rw [e] at this
      exact this
    · rw [if_neg hk]; exact sum_set _ _
theorem sum_ixOf (ts : List Ct) : (ixOf ts).count.sum ≤ ts.length := by
  have key : ∀ (us : List Ct) (s : Ix), (us.foldl Ix.step s).count.sum ≤ s.count.sum + us.length := by
    intro us
    induction us with
    | nil => intro s; simp
    | cons u r ih =>
      intro s
      have h1 := ih (s.step u)
      have h2 := sum_step s u
      simp only [List.foldl_cons, List.length_cons]
      omega
  have := key ts Ix.none
  simpa [ixOf, Ix.none] using this
theorem first_all (cs : List Int) : first cs cs.length = cs.sum := by simp [first]
theorem count_pos (ts : List Ct) : ∀ c ∈ (ixOf ts).count, 0 ≤ c := by
  have o := ok_ixOf ts
  intro c hc
  obtain ⟨i, hi⟩ := List.mem_iff_getElem?.1 hc
  have hil : i < (ixOf ts).kinds.length := by rw [← o.len]; exact (List.getElem?_eq_some_iff.1 hi).1
  rw [o.num i hil] at hi
  have := Option.some.inj hi
  omega
theorem first_rng (ts : List Ct) (k : Nat) (hk : k ≤ (ixOf ts).count.length) : 0 ≤ first (ixOf ts).count k ∧ first (ixOf ts).count k ≤ ts.length := by
  have h1 := first_mono (ixOf ts).count (count_pos ts) 0 k
  rw [first_zero, Nat.zero_add] at h1
  have h2 := first_mono (ixOf ts).count (count_pos ts) k ((ixOf ts).count.length - k)
  rw [show k + ((ixOf ts).count.length - k) = (ixOf ts).count.length by omega, first_all] at h2
  have := sum_ixOf ts
  exact ⟨h1, by omega⟩
end Go.Proofs.Qxb6600550a.Idx
namespace Go.Proofs.Qxb6600550a.Rad
open Go.RowKit Go.Proofs.Qxb6600550a.Idx

theorem IxSt.put21 {w wr : World} {b hm lm kB N : Nat} {cs : Array Value} {s : Ix} {vk vc : Value} (h : IxSt w wr b hm lm kB N cs s vk vc) {g : Nat} (hlo : w.heap.size ≤ g) (ht : Ty wr g 21) (hne : g ≠ kB) (hnc : vc.ownBlock ≠ some g) (i : Nat) (v : Value) : IxSt w (wr.setCell ⟨g, i, none⟩ v) b hm lm kB N cs s vk vc :=
  ⟨h.core.put hlo ht hne i v, own_of h.ks (fun q hq => heap_setCell_other _ _ _ _ ((own_ty h.ks hq).ne ht (by decide))), own_of h.cs (fun q hq => heap_setCell_other _ _ _ _ (fun e : q = g => hnc (by rw [← e]; exact hq))), h.ne⟩
theorem IxSt.setB {w wr : World} {b hm lm kB N : Nat} {cs : Array Value} {s : Ix} {vk vc : Value} (h : IxSt w wr b hm lm kB N cs s vk vc) (i : Nat) (v : Value) : IxSt w (wr.setCell ⟨b, i, none⟩ v) b hm lm kB N (cs.setIfInBounds i v) s vk vc :=
  ⟨h.core.setB i v, own_of h.ks (fun q hq => heap_setCell_other _ _ _ _ ((own_ty h.ks hq).ne h.core.tyb (by decide))), own_of h.cs (fun q hq => heap_setCell_other _ _ _ _ ((own_ty h.cs hq).ne h.core.tyb (by decide))), h.ne⟩
theorem IxSt.below {w wr w' : World} {b hm lm kB N : Nat} {cs : Array Value} {s : Ix} {vk vc : Value} (h : IxSt w wr b hm lm kB N cs s vk vc) (hb : Below wr.heap.size wr w') : IxSt w w' b hm lm kB N cs s vk vc :=
  ⟨h.core.of (h.core.bel.trans (hb.mono h.core.bel.size)) (hb.block b h.core.tyb.lt) (hb.block kB h.core.kof.lt) (fun k hk => hb.block k hk.lt) (fun k hk => hb.block k hk.lt), own_of h.ks (fun q hq => hb.block q (own_ty h.ks hq).lt), own_of h.cs (fun q hq => hb.block q (own_ty h.cs hq).lt), h.ne⟩
theorem VRow.below {w w' : World} {h n : Nat} {e : TypeId} {f : Nat → Value} (s : VRow w h n e f) (hb : Below w.heap.size w w') : VRow w' h n e f := s.of_heap (hb.block h s.lt)
theorem VRow.alloc {w : World} {h n : Nat} {e : TypeId} {f : Nat → Value} (s : VRow w h n e f) (o : Obj) : VRow (w.alloc o) h n e f := s.of_heap (Below.heap_alloc _ _ _ s.lt)
theorem VRow.far {w : World} {h n : Nat} {e : TypeId} {f : Nat → Value} (s : VRow w h n e f) {g : Nat} (hne : h ≠ g) (i : Nat) (v : Value) : VRow (w.setCell ⟨g, i, none⟩ v) h n e f := s.of_heap (heap_setCell_other _ _ _ _ hne)
theorem own_vrow {w : World} {base : Nat} {e : TypeId} {v : Value} {n : Nat} {xs : List Value} (h : w.ownsRow base e 1 v n xs) (hv : v ≠ .slice none 0 0) : ∃ g cap, v = .slice (some ⟨g, 0, none⟩) n cap ∧ base ≤ g ∧ ∀ f : Nat → Value, (∀ i, i < n → xs[i]? = some (f i)) → VRow w g n e f := by
  rcases h.2 with ⟨e, _⟩ | ⟨g, cap, cur, e, hb, hgg, h1, h2, h3, h4⟩
  · exact absurd e hv
  · refine ⟨g, cap, e, hb, fun f hf => ⟨cur, hgg, fun i hi => ?_⟩⟩
    rw [← hf i hi, ← h4, List.getElem?_take, if_pos (by omega), Array.getElem?_toList]
theorem make21w (n : Nat) (hn : n ≤ 1048576) : ∃ M : Array Value, (∀ w : World, (Instr.makeSlice 30 (.int .i32 (n : Int)) (.int .i32 (n : Int))).run Try.prog w = .ok (.slice (some ⟨w.heap.size, 0, none⟩) n n) (w.alloc (.cells M 21))) ∧
    ∀ w : World, VRow (w.alloc (.cells M 21)) w.heap.size n 21 (fun _ => .int .i32 0) := by
  obtain ⟨i0, hi, hz0, hz1, hz2⟩ := info_parts info21
  refine ⟨madeCells (Value.int .i32 0).cells (n * 1), fun w => ?_, fun w => ⟨_, heap_alloc_new w _, fun i hi => ?_⟩⟩
  · have h := run_make (P := Try.prog) w 30 21 i0 (.int .i32 0) Try.underlying30 hi hz0 .i32 .i32 n n (by omega) (by omega) (by rw [hz2]; omega) (by omega)
    simpa [hz1] using h
  · have e : (madeCells (Value.int .i32 0).cells (n * 1)).toList = List.replicate n (.int .i32 0) := by rw [Nat.mul_one]; exact toList_madeCells_one _ _
    rw [← Array.getElem?_toList, e, List.getElem?_replicate, if_pos hi]
theorem info40 : (Try.prog.info? 40).map (fun i => (i.zero, i.size, i.bytes)) = some (some (.float .f64 0), 1, 8) := by kernel_rfl
theorem make40 (n : Nat) (hn : n ≤ 1048576) : ∃ M : Array Value, (∀ w : World, (Instr.makeSlice 78 (.int .i64 (n : Int)) (.int .i64 (n : Int))).run Try.prog w = .ok (.slice (some ⟨w.heap.size, 0, none⟩) n n) (w.alloc (.cells M 40))) ∧
    ∀ w : World, VRow (w.alloc (.cells M 40)) w.heap.size n 40 (fun _ => .float .f64 0) := by
  obtain ⟨i0, hi, hz0, hz1, hz2⟩ := info_parts info40
  refine ⟨madeCells (Value.float .f64 0).cells (n * 1), fun w => ?_, fun w => ⟨_, heap_alloc_new w _, fun i hi => ?_⟩⟩
  · have h := run_make (P := Try.prog) w 78 40 i0 (.float .f64 0) Try.underlying78 hi hz0 .i64 .i64 n n (by omega) (by omega) (by rw [hz2]; omega) (by omega)
    simpa [hz1] using h
  · have e : (madeCells (Value.float .f64 0).cells (n * 1)).toList = List.replicate n (.float .f64 0) := by rw [Nat.mul_one]; exact toList_madeCells_one _ _
    rw [← Array.getElem?_toList, e, List.getElem?_replicate, if_pos hi]
end Go.Proofs.Qxb6600550a.Rad
