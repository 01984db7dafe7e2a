import Derived.Test.Qxb6600550aK0
namespace Go.Proofs.Qxb6600550a.Rad
open Go.RowKit Go.Proofs.Qxb6600550a.Idx

theorem shared_any (b : Nat) (a : Option Addr) (n c : Nat) (w : World) (h : w.cell? ⟨b, 5, none⟩ = some (.slice a n c)) :
    Calls Try.prog 39 #[.pointer (some ⟨b, 0, none⟩)] w fun e w' => e = .returned (.slice a n c) ∧ w' = w := by
  go_enter Try.func39, Try.ntmps39
  go_wp2
  go_ret
  exact ⟨rfl, rfl⟩
theorem untaken_any (b : Nat) (a : Option Addr) (n c : Nat) (w : World) (h : w.cell? ⟨b, 7, none⟩ = some (.slice a n c)) :
    Calls Try.prog 40 #[.pointer (some ⟨b, 0, none⟩)] w fun e w' => e = .returned (.slice a n c) ∧ w' = w := by
  go_enter Try.func40, Try.ntmps40
  go_wp2
  go_ret
  exact ⟨rfl, rfl⟩
theorem found_any (b : Nat) (a : Option Addr) (n c : Nat) (w : World) (h : w.cell? ⟨b, 6, none⟩ = some (.slice a n c)) :
    Calls Try.prog 41 #[.pointer (some ⟨b, 0, none⟩)] w fun e w' => e = .returned (.int .i64 (n : Nat)) ∧ w' = w := by
  go_enter Try.func41, Try.ntmps41
  go_wp2
  go_ret
  exact ⟨rfl, rfl⟩
theorem IndexAt.ends {w wr : World} {b : Nat} {ts : List Ct} (h : IndexAt w wr b ts) : ∃ gs gu, VRow wr gs (ixOf ts).count.length 40 (fun _ => .float .f64 0) ∧ VRow wr gu (ixOf ts).count.length 21 (fun _ => .int .i32 0) ∧
    (Calls Try.prog 39 #[.pointer (some ⟨b, 0, none⟩)] wr fun e w' => e = .returned (.slice (some ⟨gs, 0, none⟩) (ixOf ts).count.length (ixOf ts).count.length) ∧ w' = wr) ∧
    (Calls Try.prog 40 #[.pointer (some ⟨b, 0, none⟩)] wr fun e w' => e = .returned (.slice (some ⟨gu, 0, none⟩) (ixOf ts).count.length (ixOf ts).count.length) ∧ w' = wr) ∧
    (Calls Try.prog 41 #[.pointer (some ⟨b, 0, none⟩)] wr fun e w' => e = .returned (.int .i64 (0 : Nat)) ∧ w' = wr) := by
  obtain ⟨hm, lm, kB, N, vk, vc, gm, gf, gs, gu, M, h1, h2, h3, h4, h5, h6⟩ := h
  exact ⟨gs, gu, h5, h6, shared_any b _ _ _ wr (h1.cell (i := 5) rfl).1, untaken_any b _ _ _ wr (h1.cell (i := 7) rfl).1, found_any b none 0 0 wr (h1.cell (i := 6) rfl).1⟩

/-- The map of cursors. -/
abbrev curF (hd : Hd) : Int → Option Value := fun r => if hd.h r = [] then none else some (.int .i64 ((hd.h r).length : Int))
/-- The cursors and the runes seen. -/
structure Cur (w7 wr : World) (cm : Nat) (hd : Hd) (nr : Nat) (vr : Value) : Prop where
  bel : Below w7.heap.size w7 wr
  lo : w7.heap.size ≤ cm
  map : ∃ n, IMap wr cm .i32 (curF hd) n
  rows : ∃ rs : List Int, wr.ownsRow w7.heap.size 21 1 vr nr (rs.map (.int .i32))
theorem Cur.alloc {w7 wr : World} {cm : Nat} {hd : Hd} {nr : Nat} {vr : Value} (h : Cur w7 wr cm hd nr vr) (o : Obj) (j : Nat) : Cur w7 ((wr.alloc o).drewN j) cm hd nr vr := by
  obtain ⟨n, h1⟩ := h.map
  obtain ⟨rs, h2⟩ := h.rows
  have hb := h.bel.alloc h.bel.size o
  exact ⟨⟨hb.os, hb.tape, hb.output, hb.size, hb.block⟩, h.lo, ⟨n, h1.of_heap (Below.heap_alloc _ _ _ h1.lt)⟩, ⟨rs, h2.alloc o⟩⟩
theorem Cur.drewN {w7 wr : World} {cm : Nat} {hd : Hd} {nr : Nat} {vr : Value} (h : Cur w7 wr cm hd nr vr) (j : Nat) : Cur w7 (wr.drewN j) cm hd nr vr := by
  obtain ⟨n, h1⟩ := h.map
  obtain ⟨rs, h2⟩ := h.rows
  exact ⟨⟨h.bel.os, h.bel.tape, h.bel.output, h.bel.size, h.bel.block⟩, h.lo, ⟨n, h1.of_heap rfl⟩, ⟨rs, h2⟩⟩
theorem Cur.mp {w7 wr : World} {cm : Nat} {hd : Hd} {nr : Nat} {vr : Value} (h : Cur w7 wr cm hd nr vr) : Mp wr cm := by
  obtain ⟨n, h1⟩ := h.map
  exact h1.mp
theorem fneq0 (w : World) : (binOp .neq 40 (.float .f64 0) (.float .f64 0)).run Try.prog w = .ok (.bool false) w := by kernel_rfl
theorem zero3 (w : World) : (zeroValue 3).run Try.prog w = .ok (.int .i64 0) w := by kernel_rfl
theorem curF_get (hd : Hd) (r : Int) : (curF hd r).getD (.int .i64 0) = .int .i64 ((hd.h r).length : Int) := by
  unfold curF
  by_cases h : hd.h r = []
  · rw [if_pos h, h]; rfl
  · rw [if_neg h]; rfl
theorem Cur.look {w7 wr : World} {cm : Nat} {hd : Hd} {nr : Nat} {vr : Value} (h : Cur w7 wr cm hd nr vr) (r : Int) : (Instr.lookup 76 (.map (some cm)) (.int .i32 r) true).run Try.prog wr = .ok (.tuple #[.int .i64 ((hd.h r).length : Int), .bool (decide (hd.h r ≠ []))]) wr := by
  obtain ⟨n, h1⟩ := h.map
  rw [h1.look_ok (P := Try.prog) Try.underlying76 Try.underlying21 (zero3 wr) r, curF_get]
  have e : (curF hd r).isSome = decide (hd.h r ≠ []) := by
    unfold curF
    by_cases h : hd.h r = []
    · rw [if_pos h]; simp [h]
    · rw [if_neg h]; simp [h]
  rw [e]
theorem Cur.look1 {w7 wr : World} {cm : Nat} {hd : Hd} {nr : Nat} {vr : Value} (h : Cur w7 wr cm hd nr vr) (r : Int) : (Instr.lookup 76 (.map (some cm)) (.int .i32 r) false).run Try.prog wr = .ok (.int .i64 ((hd.h r).length : Int)) wr := by
  obtain ⟨n, h1⟩ := h.map
  rw [h1.look (P := Try.prog) Try.underlying76 Try.underlying21 (zero3 wr) r, curF_get]
theorem Cur.store {w7 wr : World} {cm : Nat} {hd : Hd} {nr : Nat} {vr : Value} (h : Cur w7 wr cm hd nr vr) (k r n : Int) (x : Nat) : ∃ w', (Instr.mapUpdate 76 (.map (some cm)) (.int .i32 r) (.int .i64 (((hd.h r).length : Int) + 1))).run Try.prog wr = .ok () w' ∧ Cur w7 w' cm (hd.step k (r, n, x)) nr vr ∧ But cm wr w' := by
  obtain ⟨N, h1⟩ := h.map
  obtain ⟨rs, h2⟩ := h.rows
  obtain ⟨w', a, b, c⟩ := h1.store (P := Try.prog) Try.underlying76 Try.underlying21 r (.int .i64 (((hd.h r).length : Int) + 1))
  refine ⟨w', a, ⟨⟨c.os.trans h.bel.os, c.tape.trans h.bel.tape, c.output.trans h.bel.output, by rw [c.size]; exact h.bel.size, fun k hk => (c.block k (by have := h.lo; omega)).trans (h.bel.block k hk)⟩, h.lo, ⟨_, b.congr (fun q => ?_)⟩, ⟨rs, own_of h2 (fun g hg => c.block g ((own_ty h2 hg).ne_map h1.mp))⟩⟩, c⟩
  show (if q = r then some (Value.int .i64 (((hd.h r).length : Int) + 1)) else curF hd q) = (if (if q = r then hd.h r ++ [(k, n)] else hd.h q) = [] then none else some (.int .i64 ((if q = r then hd.h r ++ [(k, n)] else hd.h q).length : Int)))
  by_cases he : q = r
  · simp [he]
  · simp only [if_neg he]
theorem Cur.start (w7 : World) : Cur w7 (w7.alloc (.map #[] 0)) w7.heap.size hd0 0 (.slice none 0 0) :=
  ⟨below_alloc _ _, Nat.le_refl _, ⟨0, (IMap.made w7 .i32).congr (fun _ => by simp [curF, hd0])⟩, ⟨[], World.ownsRow_nil _ _ _ _⟩⟩
theorem hd_num_le (k : Int) (cs : List Ch) : ∀ hd : Hd, (cs.foldl (Hd.step k) hd).n ≤ hd.n + cs.length := by
  induction cs with
  | nil => intro hd; simp
  | cons c r ih =>
    intro hd
    have h1 : (hd.step k c).n ≤ hd.n + 1 := by
      show (if hd.h c.1 = [] then hd.n + 1 else hd.n) ≤ _
      split <;> omega
    have := ih (hd.step k c)
    simp only [List.foldl_cons, List.length_cons]
    omega
theorem hdOf_num (ks : List Ct) (h : ∀ t ∈ ks, t.chs.length ≤ 65536) : ∀ k, k ≤ ks.length → (hdOf ks k).n ≤ k * 65536 := by
  intro k
  induction k with
  | zero => intro _; simp [hdOf, hd0]
  | succ k ih =>
    intro hk
    have ht : ks[k]? = some ks[k] := List.getElem?_eq_getElem (by omega)
    rw [hdOf_step _ _ _ ht]
    have h1 := hd_num_le k ks[k].chs (hdOf ks k)
    have h2 := h _ (List.getElem_mem (show k < ks.length by omega))
    have h3 := ih (by omega)
    omega
/-- runes = append(runes, r) -/
theorem Cur.app {w7 wx w1 : World} {cm : Nat} {hd : Hd} {nr : Nat} {vr : Value} (h : Cur w7 wx cm hd nr vr) {g cap : Nat} {r : Int} {rs : List Int} (hvr : wx.ownsRow w7.heap.size 21 1 vr nr (rs.map (.int .i32))) (hown : w1.ownsRow w7.heap.size 21 1 (.slice (some ⟨g, 0, none⟩) (nr + 1) cap) (nr + 1) (rs.map (.int .i32) ++ [.int .i32 r])) (hg : wx.grownBy w1 vr.ownBlock) :
    Cur w7 w1 cm hd (nr + 1) (.slice (some ⟨g, 0, none⟩) (nr + 1) cap) := by
  obtain ⟨N, h1⟩ := h.map
  refine ⟨h.bel.grown hg h.bel.size (fun k hk => (hvr.lt k hk).1), h.lo, ⟨N, h1.of_heap (hg.block cm h1.lt (fun e => (own_ty hvr e.symm).ne_map h1.mp rfl))⟩, ⟨rs ++ [r], by simpa using hown⟩⟩
def emp (ks : List Ct) (k : Nat) : Nat := ((ks.take k).filter (fun t => t.chs.isEmpty)).length
theorem emp_step (ks : List Ct) (k : Nat) (t : Ct) (h : ks[k]? = some t) : emp ks (k + 1) = emp ks k + if t.chs = [] then 1 else 0 := by
  have hj := (List.getElem?_eq_some_iff.1 h).1
  have e : ks[k] = t := by rw [List.getElem?_eq_getElem hj] at h; exact Option.some.inj h
  unfold emp
  rw [List.take_succ_eq_append_getElem hj, List.filter_append, List.length_append, e]
  by_cases hc : t.chs = []
  · simp [hc]
  · have : t.chs.isEmpty = false := by simpa using hc
    simp [hc, this]
theorem emp_le (ks : List Ct) (k : Nat) : emp ks k ≤ k := by
  unfold emp
  have h1 := List.length_filter_le (fun t : Ct => t.chs.isEmpty) (ks.take k)
  have h2 : (ks.take k).length ≤ k := by simp; omega
  omega
end Go.Proofs.Qxb6600550a.Rad
