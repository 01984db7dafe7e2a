import Derived.Test.Qxb6600550aA9
namespace Go.Proofs.Qxb6600550a.Rad
open Go.RowKit

theorem kind_q (r : Nat) (i k : Int) (w : World) : Calls Try.prog 14 #[.agg #[.int .u64 (r : Nat), .pointer none, .int .i32 i, .int .i32 k]] w fun e w' => e = .returned (.int .i32 k) ∧ ∃ o, w' = w.alloc o :=
  (kind_any r i k w).mono fun _ _ ⟨h1, h2⟩ => ⟨h1, _, h2⟩

/-- Block h holds the values f, of element type e. -/
def VRow (w : World) (h n : Nat) (e : TypeId) (f : Nat → Value) : Prop := ∃ C : Array Value, w.heap[h]? = some (.cells C e (0, 0)) ∧ ∀ i, i < n → C[i]? = some (f i)
theorem VRow.of_heap {w w' : World} {h n : Nat} {e : TypeId} {f : Nat → Value} (s : VRow w h n e f) (he : w'.heap[h]? = w.heap[h]?) : VRow w' h n e f := by
  obtain ⟨C, h1, h2⟩ := s
  exact ⟨C, by rw [he]; exact h1, h2⟩
theorem VRow.lt {w : World} {h n : Nat} {e : TypeId} {f : Nat → Value} (s : VRow w h n e f) : h < w.heap.size := by
  obtain ⟨C, h1, _⟩ := s
  exact (Array.getElem?_eq_some_iff.1 h1).1
theorem VRow.cell {w : World} {h n : Nat} {e : TypeId} {f : Nat → Value} (s : VRow w h n e f) {i : Nat} (hi : i < n) : w.cell? ⟨h, i, none⟩ = some (f i) ∧ w.frozen? ⟨h, i, none⟩ = false := by
  obtain ⟨C, h1, h2⟩ := s
  exact ⟨by rw [cell_of_row w h i C e (0, 0) h1]; exact h2 i hi, frozen_of_row w h i C e h1⟩
theorem VRow.set {w : World} {h n : Nat} {e : TypeId} {f : Nat → Value} (s : VRow w h n e f) (p : Nat) (v : Value) : VRow (w.setCell ⟨h, p, none⟩ v) h n e (fun i => if i = p then v else f i) := by
  obtain ⟨C, h1, h2⟩ := s
  refine ⟨_, heap_setCell_same w h p C e _ h1, fun i hi => ?_⟩
  have hs : i < C.size := (Array.getElem?_eq_some_iff.1 (h2 i hi)).1
  by_cases he : p = i
  · subst he
    rw [Array.getElem?_setIfInBounds_self_of_lt hs]; simp
  · rw [Array.getElem?_setIfInBounds_ne he, h2 i hi]
    show _ = some (if i = p then v else f i)
    rw [if_neg (fun e : i = p => he e.symm)]
theorem VRow.congr {w : World} {h n : Nat} {e : TypeId} {f f' : Nat → Value} (s : VRow w h n e f) (he : ∀ i, i < n → f i = f' i) : VRow w h n e f' := by
  obtain ⟨C, h1, h2⟩ := s
  exact ⟨C, h1, fun i hi => by rw [← he i hi]; exact h2 i hi⟩
theorem VRow.ne {w : World} {h n h' n' : Nat} {e e' : TypeId} {f f' : Nat → Value} (s : VRow w h n e f) (s' : VRow w h' n' e' f') (he : e ≠ e') : h ≠ h' := by
  rintro rfl
  obtain ⟨C, h1, _⟩ := s
  obtain ⟨C', h2, _⟩ := s'
  rw [h1] at h2
  simp at h2
  exact he h2.2
theorem Buf.ne_row {w : World} {g n h m : Nat} {os : List Cd} {e : TypeId} {f : Nat → Value} (b : Buf w g n os) (s : VRow w h m e f) (he : e ≠ 35) : g ≠ h := by
  rintro rfl
  obtain ⟨arr, h1, _⟩ := b
  obtain ⟨C, h2, _⟩ := s
  rw [h1] at h2
  simp at h2
  exact he h2.2.symm

theorem make31 (n : Nat) (hn : n ≤ 1048576) : ∃ M : Array Value, (∀ w : World, (Instr.makeSlice 29 (.int .i64 (n : Int)) (.int .i64 (n : Int))).run Try.prog w = .ok (.slice (some ⟨w.heap.size, 0, none⟩) n n) (w.alloc (.cells M 31))) ∧
    ∀ w : World, VRow (w.alloc (.cells M 31)) w.heap.size n 31 (fun _ => .int .u64 0) := by
  have h4 : (Try.prog.info? 31).map (fun i => (i.zero, i.size, i.bytes)) = some (some (.int .u64 0), 1, 8) := by kernel_rfl
  obtain ⟨i0, hi, hz0, hz1, hz2⟩ := info_parts h4
  refine ⟨madeCells (Value.int .u64 0).cells (n * 1), fun w => ?_, fun w => ⟨_, heap_alloc_new w _, fun i hi => ?_⟩⟩
  · have h := run_make (P := Try.prog) w 29 31 i0 (.int .u64 0) Try.underlying29 hi hz0 .i64 .i64 n n (by omega) (by omega) (by rw [hz2]; omega) (by omega)
    simpa [hz1] using h
  · have e : (madeCells (Value.int .u64 0).cells (n * 1)).toList = List.replicate n (.int .u64 0) := by rw [Nat.mul_one]; exact toList_madeCells_one _ _
    rw [← Array.getElem?_toList, e, List.getElem?_replicate, if_pos hi]
theorem make21 (n : Nat) (hn : n ≤ 1048576) : ∃ M : Array Value, (∀ w : World, (Instr.makeSlice 30 (.int .i64 (n : Int)) (.int .i64 (n : Int))).run Try.prog w = .ok (.slice (some ⟨w.heap.size, 0, none⟩) n n) (w.alloc (.cells M 21))) ∧
    ∀ w : World, VRow (w.alloc (.cells M 21)) w.heap.size n 21 (fun _ => .int .i32 0) := by
  have h4 : (Try.prog.info? 21).map (fun i => (i.zero, i.size, i.bytes)) = some (some (.int .i32 0), 1, 4) := by kernel_rfl
  obtain ⟨i0, hi, hz0, hz1, hz2⟩ := info_parts h4
  refine ⟨madeCells (Value.int .i32 0).cells (n * 1), fun w => ?_, fun w => ⟨_, heap_alloc_new w _, fun i hi => ?_⟩⟩
  · have h := run_make (P := Try.prog) w 30 21 i0 (.int .i32 0) Try.underlying30 hi hz0 .i64 .i64 n n (by omega) (by omega) (by rw [hz2]; omega) (by omega)
    simpa [hz1] using h
  · have e : (madeCells (Value.int .i32 0).cells (n * 1)).toList = List.replicate n (.int .i32 0) := by rw [Nat.mul_one]; exact toList_madeCells_one _ _
    rw [← Array.getElem?_toList, e, List.getElem?_replicate, if_pos hi]

/-- What stands in a row behind q candidates. -/
def val (g : Cd → Value) (z : Value) (os : List Cd) (q i : Nat) : Value := if i < q then (os[i]?.map g).getD z else z
theorem val_zero (g : Cd → Value) (z : Value) (os : List Cd) (i : Nat) : z = val g z os 0 i := by simp [val]
theorem val_succ (g : Cd → Value) (z : Value) (os : List Cd) (q : Nat) (c : Cd) (hc : os[q]? = some c) (i : Nat) : (if i = q then g c else val g z os q i) = val g z os (q + 1) i := by
  unfold val
  by_cases hi : i = q
  · subst hi; simp [hc]
  · rw [if_neg hi]
    by_cases h2 : i < q
    · rw [if_pos h2, if_pos (by omega)]
    · rw [if_neg h2, if_neg (by omega)]
theorem val_full (g : Cd → Value) (z : Value) (os : List Cd) (n q : Nat) (c : Cd) (hq : q < n) (hc : os[q]? = some c) : val g z os n q = g c := by
  unfold val
  rw [if_pos hq, hc]; rfl
abbrev gr (c : Cd) : Value := .int .u64 (c.1 : Nat)
abbrev gt (c : Cd) : Value := .int .i32 c.2.1
abbrev gk (c : Cd) : Value := .int .i32 c.2.2

/-- What the first loop keeps true of memory. -/
structure RSt (w0 w : World) (n gX gY : Nat) (os ys : List Cd) (hr ht hk : Nat) (fr ft fk : Nat → Value) : Prop where
  x : Buf w gX n os
  y : Buf w gY n ys
  r : VRow w hr n 31 fr
  t : VRow w ht n 21 ft
  k : VRow w hk n 21 fk
  tk : ht ≠ hk
  bel : Below w0.heap.size w0 w
  lr : w0.heap.size ≤ hr
  lt : w0.heap.size ≤ ht
  lk : w0.heap.size ≤ hk

theorem RSt.alloc {w0 w : World} {n gX gY : Nat} {os ys : List Cd} {hr ht hk : Nat} {fr ft fk : Nat → Value} (s : RSt w0 w n gX gY os ys hr ht hk fr ft fk) (o : Obj) : RSt w0 (w.alloc o) n gX gY os ys hr ht hk fr ft fk :=
  ⟨s.x.of_heap (Below.heap_alloc _ _ _ s.x.lt), s.y.of_heap (Below.heap_alloc _ _ _ s.y.lt), s.r.of_heap (Below.heap_alloc _ _ _ s.r.lt), s.t.of_heap (Below.heap_alloc _ _ _ s.t.lt), s.k.of_heap (Below.heap_alloc _ _ _ s.k.lt), s.tk, s.bel.alloc s.bel.size o, s.lr, s.lt, s.lk⟩
theorem RSt.drewN {w0 w : World} {n gX gY : Nat} {os ys : List Cd} {hr ht hk : Nat} {fr ft fk : Nat → Value} (s : RSt w0 w n gX gY os ys hr ht hk fr ft fk) (k : Nat) : RSt w0 (w.drewN k) n gX gY os ys hr ht hk fr ft fk :=
  ⟨s.x, s.y, s.r, s.t, s.k, s.tk, ⟨s.bel.os, s.bel.tape, s.bel.output, s.bel.size, s.bel.block⟩, s.lr, s.lt, s.lk⟩
theorem RSt.setr {w0 w : World} {n gX gY : Nat} {os ys : List Cd} {hr ht hk : Nat} {fr ft fk : Nat → Value} (s : RSt w0 w n gX gY os ys hr ht hk fr ft fk) (p : Nat) (v : Value) {f' : Nat → Value} (e : ∀ i, (if i = p then v else fr i) = f' i) :
    RSt w0 (w.setCell ⟨hr, p, none⟩ v) n gX gY os ys hr ht hk f' ft fk :=
  ⟨s.x.of_heap (heap_setCell_other _ _ _ _ (s.x.ne_row s.r (by decide))), s.y.of_heap (heap_setCell_other _ _ _ _ (s.y.ne_row s.r (by decide))), (s.r.set p v).congr (fun i _ => e i), s.t.of_heap (heap_setCell_other _ _ _ _ (s.t.ne s.r (by decide))), s.k.of_heap (heap_setCell_other _ _ _ _ (s.k.ne s.r (by decide))), s.tk, s.bel.setCell s.lr _, s.lr, s.lt, s.lk⟩
theorem RSt.sett {w0 w : World} {n gX gY : Nat} {os ys : List Cd} {hr ht hk : Nat} {fr ft fk : Nat → Value} (s : RSt w0 w n gX gY os ys hr ht hk fr ft fk) (p : Nat) (v : Value) {f' : Nat → Value} (e : ∀ i, (if i = p then v else ft i) = f' i) :
    RSt w0 (w.setCell ⟨ht, p, none⟩ v) n gX gY os ys hr ht hk fr f' fk :=
  ⟨s.x.of_heap (heap_setCell_other _ _ _ _ (s.x.ne_row s.t (by decide))), s.y.of_heap (heap_setCell_other _ _ _ _ (s.y.ne_row s.t (by decide))), s.r.of_heap (heap_setCell_other _ _ _ _ (s.r.ne s.t (by decide))), (s.t.set p v).congr (fun i _ => e i), s.k.of_heap (heap_setCell_other _ _ _ _ s.tk.symm), s.tk, s.bel.setCell s.lt _, s.lr, s.lt, s.lk⟩
theorem RSt.setk {w0 w : World} {n gX gY : Nat} {os ys : List Cd} {hr ht hk : Nat} {fr ft fk : Nat → Value} (s : RSt w0 w n gX gY os ys hr ht hk fr ft fk) (p : Nat) (v : Value) {f' : Nat → Value} (e : ∀ i, (if i = p then v else fk i) = f' i) :
    RSt w0 (w.setCell ⟨hk, p, none⟩ v) n gX gY os ys hr ht hk fr ft f' :=
  ⟨s.x.of_heap (heap_setCell_other _ _ _ _ (s.x.ne_row s.k (by decide))), s.y.of_heap (heap_setCell_other _ _ _ _ (s.y.ne_row s.k (by decide))), s.r.of_heap (heap_setCell_other _ _ _ _ (s.r.ne s.k (by decide))), s.t.of_heap (heap_setCell_other _ _ _ _ s.tk), (s.k.set p v).congr (fun i _ => e i), s.tk, s.bel.setCell s.lk _, s.lr, s.lt, s.lk⟩

/-- What the second loop reads. -/
structure CSt (w0 w : World) (n g : Nat) (os : List Cd) (hr ht hk : Nat) : Prop where
  x : Buf w g n os
  r : VRow w hr n 31 (val gr (.int .u64 0) os n)
  t : VRow w ht n 21 (val gt (.int .i32 0) os n)
  k : VRow w hk n 21 (val gk (.int .i32 0) os n)
  bel : Below w0.heap.size w0 w

theorem CSt.alloc {w0 w : World} {n g : Nat} {os : List Cd} {hr ht hk : Nat} (s : CSt w0 w n g os hr ht hk) (o : Obj) : CSt w0 (w.alloc o) n g os hr ht hk :=
  ⟨s.x.of_heap (Below.heap_alloc _ _ _ s.x.lt), s.r.of_heap (Below.heap_alloc _ _ _ s.r.lt), s.t.of_heap (Below.heap_alloc _ _ _ s.t.lt), s.k.of_heap (Below.heap_alloc _ _ _ s.k.lt), s.bel.alloc s.bel.size o⟩
theorem CSt.drewN {w0 w : World} {n g : Nat} {os : List Cd} {hr ht hk : Nat} (s : CSt w0 w n g os hr ht hk) (k : Nat) : CSt w0 (w.drewN k) n g os hr ht hk :=
  ⟨s.x, s.r, s.t, s.k, ⟨s.bel.os, s.bel.tape, s.bel.output, s.bel.size, s.bel.block⟩⟩

/-- The seven cells that a round of the second loop reads. -/
def Seven (w : World) (g q hr ht hk : Nat) (rk : Nat) (ti ki : Int) : Prop :=
  w.cell? ⟨g, q * 4, none⟩ = some (.int .u64 (rk : Nat)) ∧ w.cell? ⟨g, q * 4 + 1, none⟩ = some (.pointer none) ∧ w.cell? ⟨g, q * 4 + 2, none⟩ = some (.int .i32 ti) ∧ w.cell? ⟨g, q * 4 + 3, none⟩ = some (.int .i32 ki) ∧
    w.cell? ⟨hr, q, none⟩ = some (.int .u64 (rk : Nat)) ∧ w.cell? ⟨ht, q, none⟩ = some (.int .i32 ti) ∧ w.cell? ⟨hk, q, none⟩ = some (.int .i32 ki)
theorem CSt.at {w0 w : World} {n g : Nat} {os : List Cd} {hr ht hk : Nat} (s : CSt w0 w n g os hr ht hk) {q : Nat} {rk : Nat} {ti ki : Int} (hq : q < n) (hc : os[q]? = some (rk, ti, ki)) : Seven w g q hr ht hk rk ti ki := by
  obtain ⟨c0, c1, c2, c3⟩ := s.x.cells hc
  refine ⟨c0, c1, c2, c3, ?_, ?_, ?_⟩
  · rw [(s.r.cell hq).1, val_full _ _ _ _ _ _ hq hc]
  · rw [(s.t.cell hq).1, val_full _ _ _ _ _ _ hq hc]
  · rw [(s.k.cell hq).1, val_full _ _ _ _ _ _ hq hc]

theorem law4_out (a0 a1 : Option Addr) (n0 c0 n1 c1 : Nat) (w : World) (h0 : n0 ≤ 9223372036854775807) (h1 : n1 ≤ 9223372036854775807) (h : 32768 < n0 ∨ 32768 < n1 ∨ 65536 < n0 + n1) :
    Calls Try.prog 4 #[.slice a0 n0 c0, .slice a1 n1 c1] w fun e w' => e = .returned (.bool true) ∧ Below w.heap.size w w' := by
  by_cases hb : 1048576 < n0 + n1
  · go_enter Try.func4, Try.ntmps4
    go_wp2_with fail
    refine (zzb2_no a0 a1 n0 c0 n1 c1 w h0 h1 hb).mono ?_
    rintro e w' ⟨rfl, rfl⟩
    go_wp2
    go_ret
    exact ⟨rfl, Below.refl _ _⟩
  · have hb' : n0 + n1 ≤ 1048576 := by omega
    by_cases h2 : 32768 < n0
    · go_enter Try.func4, Try.ntmps4
      go_wp2_with fail
      refine (zzb2_yes a0 a1 n0 c0 n1 c1 w hb').mono ?_
      rintro e w' ⟨rfl, rfl⟩
      go_wp2
      go_ret
      exact ⟨rfl, Below.refl _ _⟩
    · by_cases h3 : 32768 < n1
      · go_enter Try.func4, Try.ntmps4
        go_wp2_with fail
        refine (zzb2_yes a0 a1 n0 c0 n1 c1 w hb').mono ?_
        rintro e w' ⟨rfl, rfl⟩
        go_wp2
        go_ret
        exact ⟨rfl, Below.refl _ _⟩
      · omega
end Go.Proofs.Qxb6600550a.Rad
