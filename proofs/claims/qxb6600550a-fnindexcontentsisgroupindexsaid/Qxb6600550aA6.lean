import Derived.Test.Qxb6600550aA5
namespace Go.Proofs.Qxb6600550a.Rad
open Go.RowKit

/-- Block h holds the bools f. -/
def Seen (w : World) (h n : Nat) (f : Nat → Bool) : Prop := ∃ C : Array Value, w.heap[h]? = some (.cells C 4 (0, 0)) ∧ ∀ i, i < n → C[i]? = some (.bool (f i))
theorem Seen.of_heap {w w' : World} {h n : Nat} {f : Nat → Bool} (s : Seen w h n f) (e : w'.heap[h]? = w.heap[h]?) : Seen w' h n f := by
  obtain ⟨C, h1, h2⟩ := s
  exact ⟨C, by rw [e]; exact h1, h2⟩
theorem Seen.lt {w : World} {h n : Nat} {f : Nat → Bool} (s : Seen w h n f) : h < w.heap.size := by
  obtain ⟨C, h1, _⟩ := s
  exact (Array.getElem?_eq_some_iff.1 h1).1
theorem Seen.cell {w : World} {h n : Nat} {f : Nat → Bool} (s : Seen w h n f) {i : Nat} (hi : i < n) : w.cell? ⟨h, i, none⟩ = some (.bool (f i)) ∧ w.frozen? ⟨h, i, none⟩ = false := by
  obtain ⟨C, h1, h2⟩ := s
  exact ⟨by rw [cell_of_row w h i C 4 (0, 0) h1]; exact h2 i hi, frozen_of_row w h i C 4 h1⟩
theorem Seen.set {w : World} {h n : Nat} {f : Nat → Bool} (s : Seen w h n f) (p : Nat) : Seen (w.setCell ⟨h, p, none⟩ (.bool true)) h n (fun i => if i = p then true else f i) := by
  obtain ⟨C, h1, h2⟩ := s
  refine ⟨_, heap_setCell_same w h p C 4 _ h1, fun i hi => ?_⟩
  have hs : i < C.size := (Array.getElem?_eq_some_iff.1 (h2 i hi)).1
  by_cases he : p = i
  · subst he
    rw [Array.getElem?_setIfInBounds_self_of_lt hs]; simp
  · rw [Array.getElem?_setIfInBounds_ne he, h2 i hi]
    show _ = some (Value.bool (if i = p then true else f i))
    rw [if_neg (fun e : i = p => he e.symm)]

/-- What the check keeps true of memory. -/
structure QSt (w0 w : World) (a : Option Addr) (n : Nat) (zs : List (Nat × Int)) (g : Nat) (os : List Cd) (h : Nat) (f : Nat → Bool) : Prop where
  c : CRow w a n zs
  o : Buf w g n os
  s : Seen w h n f
  bel : Below w0.heap.size w0 w
  hh : w0.heap.size ≤ h
  hc : ∀ x, a = some x → 0 < n → x.block < w0.heap.size

theorem Buf.ne_seen {w : World} {g n h m : Nat} {os : List Cd} {f : Nat → Bool} (b : Buf w g n os) (s : Seen w h m f) : g ≠ h := by
  rintro rfl
  obtain ⟨arr, h1, _⟩ := b
  obtain ⟨C, h2, _⟩ := s
  rw [h1] at h2
  simp at h2

theorem QSt.alloc {w0 w : World} {a : Option Addr} {n : Nat} {zs : List (Nat × Int)} {g : Nat} {os : List Cd} {h : Nat} {f : Nat → Bool} (q : QSt w0 w a n zs g os h f) (o : Obj) : QSt w0 (w.alloc o) a n zs g os h f :=
  ⟨q.c.kept ((Below.refl _ _).alloc (Nat.le_refl _) o), q.o.of_heap (Below.heap_alloc _ _ _ q.o.lt), q.s.of_heap (Below.heap_alloc _ _ _ q.s.lt), q.bel.alloc q.bel.size o, q.hh, q.hc⟩
theorem QSt.drewN {w0 w : World} {a : Option Addr} {n : Nat} {zs : List (Nat × Int)} {g : Nat} {os : List Cd} {h : Nat} {f : Nat → Bool} (q : QSt w0 w a n zs g os h f) (k : Nat) : QSt w0 (w.drewN k) a n zs g os h f :=
  ⟨q.c, q.o, q.s, ⟨q.bel.os, q.bel.tape, q.bel.output, q.bel.size, q.bel.block⟩, q.hh, q.hc⟩
theorem QSt.see {w0 w : World} {a : Option Addr} {n : Nat} {zs : List (Nat × Int)} {g : Nat} {os : List Cd} {h : Nat} {f : Nat → Bool} (q : QSt w0 w a n zs g os h f) (p : Nat) :
    QSt w0 (w.setCell ⟨h, p, none⟩ (.bool true)) a n zs g os h (fun i => if i = p then true else f i) := by
  refine ⟨?_, q.o.of_heap (heap_setCell_other _ _ _ _ (q.o.ne_seen q.s)), q.s.set p, q.bel.setCell q.hh _, q.hh, q.hc⟩
  obtain ⟨c1, c2, c3⟩ := q.c
  refine ⟨c1, c2, fun h0 => ?_⟩
  obtain ⟨b, off, rfl, c4⟩ := c3 h0
  have hb : b < w0.heap.size := q.hc _ rfl h0
  have hh := q.hh
  have e : ∀ o, (w.setCell ⟨h, p, none⟩ (.bool true)).cell? ⟨b, o, none⟩ = w.cell? ⟨b, o, none⟩ := fun o => World.cell?_of_block (heap_setCell_other _ _ _ _ (by show b ≠ h; omega))
  exact ⟨b, off, rfl, fun i z hi => ⟨(e _).trans (c4 i z hi).1, (e _).trans (c4 i z hi).2⟩⟩
theorem QSt.congr {w0 w : World} {a : Option Addr} {n : Nat} {zs : List (Nat × Int)} {g : Nat} {os : List Cd} {h : Nat} {f f' : Nat → Bool} (q : QSt w0 w a n zs g os h f) (e : ∀ i, i < n → f i = f' i) : QSt w0 w a n zs g os h f' := by
  obtain ⟨C, h1, h2⟩ := q.s
  exact ⟨q.c, q.o, ⟨C, h1, fun i hi => by rw [← e i hi]; exact h2 i hi⟩, q.bel, q.hh, q.hc⟩

/-- The cells of a candidate of the list and of one that was handed in, in this world and behind one new block. -/
theorem QSt.at {w0 w : World} {b off n : Nat} {zs : List (Nat × Int)} {g : Nat} {os : List Cd} {h : Nat} {f : Nat → Bool} (q : QSt w0 w (some ⟨b, off, none⟩) n zs g os h f) {j : Nat} {rk : Nat} {ti ki : Int} (hj : os[j]? = some (rk, ti, ki)) :
    (w.cell? ⟨g, j * 4, none⟩ = some (.int .u64 (rk : Nat)) ∧ w.cell? ⟨g, j * 4 + 1, none⟩ = some (.pointer none) ∧ w.cell? ⟨g, j * 4 + 2, none⟩ = some (.int .i32 ti) ∧ w.cell? ⟨g, j * 4 + 3, none⟩ = some (.int .i32 ki)) ∧
    (∀ o, (w.alloc o).cell? ⟨g, j * 4, none⟩ = some (.int .u64 (rk : Nat)) ∧ (w.alloc o).cell? ⟨g, j * 4 + 1, none⟩ = some (.pointer none) ∧ (w.alloc o).cell? ⟨g, j * 4 + 2, none⟩ = some (.int .i32 ti) ∧ (w.alloc o).cell? ⟨g, j * 4 + 3, none⟩ = some (.int .i32 ki)) :=
  ⟨q.o.cells hj, fun o => (q.alloc o).o.cells hj⟩
theorem QSt.of {w0 w : World} {b off n : Nat} {zs : List (Nat × Int)} {g : Nat} {os : List Cd} {h : Nat} {f : Nat → Bool} (q : QSt w0 w (some ⟨b, off, none⟩) n zs g os h f) (h0 : 0 < n) {p rk : Nat} {ki : Int} (hp : zs[p]? = some (rk, ki)) :
    (w.cell? ⟨b, off + p * 2, none⟩ = some (.int .u64 (rk : Nat)) ∧ w.cell? ⟨b, off + p * 2 + 1, none⟩ = some (.int .i32 ki)) ∧
    (∀ o, (w.alloc o).cell? ⟨b, off + p * 2, none⟩ = some (.int .u64 (rk : Nat)) ∧ (w.alloc o).cell? ⟨b, off + p * 2 + 1, none⟩ = some (.int .i32 ki)) := by
  have key : ∀ {w1 : World}, CRow w1 (some ⟨b, off, none⟩) n zs → w1.cell? ⟨b, off + p * 2, none⟩ = some (.int .u64 (rk : Nat)) ∧ w1.cell? ⟨b, off + p * 2 + 1, none⟩ = some (.int .i32 ki) := by
    intro w1 hc
    obtain ⟨b', off', e, c4⟩ := hc.2.2 h0
    simp only [Option.some.injEq, Addr.mk.injEq, and_true] at e
    obtain ⟨rfl, rfl⟩ := e
    exact c4 p _ hp
  exact ⟨key q.c, fun o => key (q.alloc o).c⟩

/-! ### The list as the check wants it -/
/-- Every candidate of os bears the tag of its place in zs, its rank and its kind; no tag twice; in order. -/
structure Good (zs : List (Nat × Int)) (os : List Cd) : Prop where
  len : os.length = zs.length
  src : ∀ (q : Nat) (c : Cd), os[q]? = some c → ∃ p : Nat, c.2.1 = (p : Int) ∧ zs[p]? = some (c.1, c.2.2)
  tags : ∀ (q q' : Nat) (c c' : Cd), q < q' → os[q]? = some c → os[q']? = some c' → c.2.1 ≠ c'.2.1
  ord : ∀ (q : Nat) (c c' : Cd), os[q]? = some c → os[q + 1]? = some c' → c'.1 < c.1 ∨ (c.1 = c'.1 ∧ c.2.1 < c'.2.1)

theorem tl_mem (zs : List (Nat × Int)) : ∀ p c, c ∈ tl true zs p → ∃ i : Nat, c.2.1 = ((p + i : Nat) : Int) ∧ zs[i]? = some (c.1, c.2.2) := by
  induction zs with
  | nil => intro p c h; simp [tl] at h
  | cons z r ih =>
    intro p c h
    rw [tl, List.mem_cons] at h
    rcases h with rfl | h
    · exact ⟨0, by simp, by simp⟩
    · obtain ⟨i, h1, h2⟩ := ih (p + 1) c h
      exact ⟨i + 1, by rw [h1]; congr 1; omega, by simpa using h2⟩
theorem tl_tag (zs : List (Nat × Int)) : ∀ p, (tl true zs p).Pairwise Tag := by
  induction zs with
  | nil => intro p; simp [tl]
  | cons z r ih =>
    intro p
    rw [tl, List.pairwise_cons]
    refine ⟨fun c hc => ?_, ih (p + 1)⟩
    obtain ⟨i, h1, _⟩ := tl_mem r (p + 1) c hc
    unfold Tag
    rw [h1]
    simp
    omega
theorem tl_rk (zs : List (Nat × Int)) (h : ∀ z ∈ zs, z.1 < 18446744073709551616) (tg : Bool) : ∀ p, Rk (tl tg zs p) := by
  induction zs with
  | nil => intro p c hc; simp [tl] at hc
  | cons z r ih =>
    intro p c hc
    rw [tl, List.mem_cons] at hc
    rcases hc with rfl | hc
    · exact h z (by simp)
    · exact ih (fun y hy => h y (by simp [hy])) (p + 1) c hc

theorem good_sorted (zs : List (Nat × Int)) (h : ∀ z ∈ zs, z.1 < 18446744073709551616) : Good zs (rad (tl true zs 0) 8) := by
  have hp := rad_perm (tl true zs 0) 8
  have ho := sort_out Tag (tl true zs 0) (tl_rk zs h true 0) (tl_tag zs 0)
  have hgt : ∀ (q q' : Nat) (c c' : Cd), q < q' → (rad (tl true zs 0) 8)[q]? = some c → (rad (tl true zs 0) 8)[q']? = some c' → Out Tag c c' := by
    intro q q' c c' hq h1 h2
    obtain ⟨l1, e1⟩ := List.getElem?_eq_some_iff.1 h1
    obtain ⟨l2, e2⟩ := List.getElem?_eq_some_iff.1 h2
    have := (List.pairwise_iff_getElem.1 ho) q q' l1 l2 hq
    rw [e1, e2] at this
    exact this
  have hnd : (rad (tl true zs 0) 8).Pairwise (fun c c' => c.2.1 ≠ c'.2.1) := by
    refine (List.Perm.pairwise_iff (R := fun c c' : Cd => c.2.1 ≠ c'.2.1) (fun {x y} hxy => hxy.symm) hp).2 ?_
    refine (tl_tag zs 0).imp (fun {x y} hxy => ?_)
    unfold Tag at hxy
    omega
  refine ⟨by rw [hp.length_eq, tl_len], fun q c hc => ?_, fun q q' c c' hq h1 h2 => ?_, fun q c c' h1 h2 => ?_⟩
  · obtain ⟨i, e1, e2⟩ := tl_mem zs 0 c (hp.mem_iff.1 (List.mem_of_getElem? hc))
    exact ⟨i, by simpa using e1, e2⟩
  · obtain ⟨l1, e1⟩ := List.getElem?_eq_some_iff.1 h1
    obtain ⟨l2, e2⟩ := List.getElem?_eq_some_iff.1 h2
    have := (List.pairwise_iff_getElem.1 hnd) q q' l1 l2 hq
    rw [e1, e2] at this
    exact this
  · exact hgt q (q + 1) c c' (by omega) h1 h2

/-- Which tags have been met behind q candidates. -/
def met (os : List Cd) (q : Nat) (i : Nat) : Bool := (os.take q).any (fun c => c.2.1 == (i : Int))
theorem met_zero (os : List Cd) (i : Nat) : met os 0 i = false := by simp [met]
theorem met_succ (os : List Cd) (q : Nat) (c : Cd) (hc : os[q]? = some c) (p i : Nat) (hp : c.2.1 = (p : Int)) : (if i = p then true else met os q i) = met os (q + 1) i := by
  have hq : q < os.length := (List.getElem?_eq_some_iff.1 hc).1
  have e : os[q] = c := by rw [List.getElem?_eq_getElem hq] at hc; exact Option.some.inj hc
  unfold met
  rw [List.take_succ_eq_append_getElem hq, e, List.any_append]
  by_cases hi : i = p
  · subst hi; simp [hp]
  · rw [if_neg hi]
    have : (c.2.1 == (i : Int)) = false := by rw [hp]; simp; omega
    simp [this]
theorem met_new {zs : List (Nat × Int)} {os : List Cd} (g : Good zs os) (q : Nat) (c : Cd) (hc : os[q]? = some c) (p : Nat) (hp : c.2.1 = (p : Int)) : met os q p = false := by
  unfold met
  rw [List.any_eq_false]
  intro x hx
  obtain ⟨i, hi, rfl⟩ := List.mem_iff_getElem.1 hx
  simp only [List.length_take] at hi
  have h1 : os[i]? = some (os.take q)[i] := by
    rw [List.getElem_take, List.getElem?_eq_getElem (by omega)]
  have := g.tags i q _ c (by omega) h1 hc
  rw [List.getElem_take] at this
  simp
  rw [← hp]
  exact this
end Go.Proofs.Qxb6600550a.Rad
