import Derived.Test.Qxb6600550aH0
import Derived.Deep.Strs
import Derived.OpenShut
namespace Go.Proofs.Qxb6600550a.Rad
open Go.ChangeShapes Go.WideShapes Go.ChangeAt Go.RowKit Go.Proofs.Qxb6600550a.Idx

theorem cells42 : Try.prog.cellsOf 42 = 3 := by kernel_rfl
theorem cells3 : Try.prog.cellsOf 3 = 1 := by kernel_rfl
theorem cells39 : Try.prog.cellsOf 39 = 1 := by kernel_rfl
theorem cells40 : Try.prog.cellsOf 40 = 1 := by kernel_rfl
theorem cells71 : Try.prog.cellsOf 71 = 3 := by kernel_rfl

section
variable {H : Type} {enc : TypeId × Value → H} {W : World} {base : Nat} {spare : Nat → Bool} {held : Bool} {fuel : Nat}
theorem trod_flt {P : Program} {t : TypeId} {cs : List Value} {x : DataW H × List MemPlace} {k : FloatKind} (ht : P.underlying t = some (.float k)) (h : DataW.trod enc P W base spare held fuel t cs = some x) : ∃ n, cs = [.float k n] := by
  cases fuel with
  | zero => simp [DataW.trod] at h
  | succ n =>
    unfold DataW.trod at h
    rw [ht] at h
    split at h <;> simp_all

/-- A slice of characters that can be read as data. -/
theorem ch_of {a : Option Addr} {len cap : Nat} {x : DataW H × List MemPlace} (h : DataW.trod enc Try.prog W base spare held fuel 39 [.slice a len cap] = some x) : ∃ chs, ChRow W a len chs ∧ len ≤ 9223372036854775807 := by
  rcases Deep.open_slice Try.underlying39 h with ⟨hcs, _⟩ | ⟨b, l, c, m, n, D, Pl, hcs, _, hl, hm, hmm, _, hx⟩
  · simp at hcs
    obtain ⟨rfl, rfl, rfl⟩ := hcs
    exact ⟨[], ⟨rfl, by omega⟩, by omega⟩
  · simp at hcs
    obtain ⟨rfl, rfl, rfl⟩ := hcs
    have hlm : len ≤ m := by rw [hmm]; split <;> omega
    have key : ∀ i, i < len → ∃ z : Ch, W.cell? (b.add (i * 3)) = some (.int .i32 z.1) ∧ W.cell? ((b.add (i * 3)).add 1) = some (.int .i32 z.2.1) ∧ W.cell? ((b.add (i * 3)).add 2) = some (.float .f64 z.2.2) := by
      intro i hi
      obtain ⟨cs', h1, h2⟩ := hx i (by omega)
      rw [cells71] at h1
      obtain ⟨_, hlen, hcell⟩ := World.cells?_some h1
      obtain ⟨y0, y1, y2, n', _, _, t0, t1, t2⟩ := Deep.trod_struct3 Try.underlying71 h2
      simp only [cells21, cells40] at t0 t1 t2
      obtain ⟨r, e0, _, _⟩ := DataW.trod_int Try.underlying21 t0
      obtain ⟨k, e1, _, _⟩ := DataW.trod_int Try.underlying21 t1
      obtain ⟨y, e2⟩ := trod_flt Try.underlying40 t2
      match cs', hlen with
      | [v0, v1, v2], _ =>
        simp at e0 e1 e2
        subst e0 e1 e2
        refine ⟨(r, k, y), ?_, ?_, ?_⟩
        · have := hcell 0 (by omega)
          simpa [Addr.add] using this
        · have := hcell 1 (by omega)
          simpa using this
        · have := hcell 2 (by omega)
          simpa using this
    obtain ⟨V, hV⟩ := Deep.choose_lt key
    unfold maxLen at hm
    refine ⟨(List.range len).map V, ⟨by simp, fun h0 => ?_⟩, by omega⟩
    obtain ⟨bb, oo, sp⟩ := b
    have hsp : sp = none := by simpa [Addr.add] using World.cell?_spot (hV 0 h0).1
    subst hsp
    refine ⟨bb, oo, rfl, ?_, fun i r m x hi => ?_⟩
    · have := World.block_lt_of_cell? W _ (hV 0 h0).1
      rw [add_plain] at this
      exact this
    · have hil : i < len := by have := (List.getElem?_eq_some_iff.1 hi).1; simpa using this
      have hz : (r, m, x) = V i := by
        rw [List.getElem?_map, List.getElem?_range hil] at hi
        exact (Option.some.inj hi).symm
      obtain ⟨h1, h2, h3⟩ := hV i hil
      rw [← hz] at h1 h2 h3
      rw [add_plain] at h1 h2 h3
      rw [add_plain] at h2 h3
      exact ⟨h1, h2, h3⟩

/-- A slice of contents that can be read as data. -/
theorem ct_of {a : Option Addr} {len cap : Nat} {x : DataW H × List MemPlace} (h : DataW.trod enc Try.prog W base spare held fuel 37 [.slice a len cap] = some x) : ∃ ts, CtSl W a len ts ∧ len ≤ 9223372036854775807 ∧ ∀ t ∈ ts, t.l ≤ 9223372036854775807 := by
  rcases Deep.open_slice Try.underlying37 h with ⟨hcs, _⟩ | ⟨b, l, c, m, n, D, Pl, hcs, _, hl, hm, hmm, _, hx⟩
  · simp at hcs
    obtain ⟨rfl, rfl, rfl⟩ := hcs
    exact ⟨[], ⟨rfl, by omega⟩, by omega, by simp⟩
  · simp at hcs
    obtain ⟨rfl, rfl, rfl⟩ := hcs
    have hlm : len ≤ m := by rw [hmm]; split <;> omega
    have key : ∀ i, i < len → ∃ t : Ct, W.cell? (b.add (i * 3)) = some (.int .i64 t.g) ∧ W.cell? ((b.add (i * 3)).add 1) = some (.slice t.a t.l t.c) ∧ W.cell? ((b.add (i * 3)).add 2) = some (.float .f64 t.wt) ∧ ChRow W t.a t.l t.chs ∧ t.l ≤ 9223372036854775807 := by
      intro i hi
      obtain ⟨cs', h1, h2⟩ := hx i (by omega)
      rw [cells42] at h1
      obtain ⟨_, hlen, hcell⟩ := World.cells?_some h1
      obtain ⟨y0, y1, y2, n', _, _, t0, t1, t2⟩ := Deep.trod_struct3 Try.underlying42 h2
      simp only [cells3, cells39, cells40] at t0 t1 t2
      obtain ⟨r, e0, _, _⟩ := DataW.trod_int Try.underlying3 t0
      obtain ⟨y, e2⟩ := trod_flt Try.underlying40 t2
      match cs', hlen with
      | [v0, v1, v2], _ =>
        simp at e0 e2
        subst e0 e2
        have t1 : DataW.trod enc Try.prog W base spare held n' 39 [v1] = some y1 := by simpa using t1
        have hsl : ∃ a' l' c', v1 = .slice a' l' c' := by
          rcases Deep.open_slice Try.underlying39 t1 with ⟨hcs, _⟩ | ⟨b', l', c', _, _, _, _, hcs, _⟩
          · simp at hcs; exact ⟨_, _, _, hcs⟩
          · simp at hcs; exact ⟨_, _, _, hcs⟩
        obtain ⟨a', l', c', rfl⟩ := hsl
        obtain ⟨chs, hch, hll⟩ := ch_of t1
        refine ⟨⟨r, a', l', c', chs, y⟩, ?_, ?_, ?_, hch, hll⟩
        · have := hcell 0 (by omega)
          simpa [Addr.add] using this
        · have := hcell 1 (by omega)
          simpa using this
        · have := hcell 2 (by omega)
          simpa using this
    haveI : Inhabited Ct := ⟨⟨0, none, 0, 0, [], 0⟩⟩
    obtain ⟨V, hV⟩ := Deep.choose_lt key
    unfold maxLen at hm
    have hat : ∀ i t, ((List.range len).map V)[i]? = some t → i < len ∧ t = V i := fun i t hi => by
      have hil : i < len := by have := (List.getElem?_eq_some_iff.1 hi).1; simpa using this
      refine ⟨hil, ?_⟩
      rw [List.getElem?_map, List.getElem?_range hil] at hi
      exact (Option.some.inj hi).symm
    refine ⟨(List.range len).map V, ⟨by simp, fun h0 => ?_⟩, by omega, fun t ht => ?_⟩
    · obtain ⟨bb, oo, sp⟩ := b
      have hsp : sp = none := by simpa [Addr.add] using World.cell?_spot (hV 0 h0).1
      subst hsp
      refine ⟨bb, oo, rfl, by simp, ?_, fun i t hi => ?_, fun i t hi => ?_⟩
      · have := World.block_lt_of_cell? W _ (hV 0 h0).1
        rw [add_plain] at this
        exact this
      · obtain ⟨hil, rfl⟩ := hat i t hi
        obtain ⟨h1, h2, h3, _⟩ := hV i hil
        rw [add_plain] at h1 h2 h3
        rw [add_plain] at h2 h3
        exact ⟨h1, h2, h3⟩
      · obtain ⟨hil, rfl⟩ := hat i t hi
        exact (hV i hil).2.2.2.1
    · obtain ⟨i, hi⟩ := List.mem_iff_getElem?.1 ht
      obtain ⟨hil, rfl⟩ := hat i t hi
      exact (hV i hil).2.2.2.2
end
end Go.Proofs.Qxb6600550a.Rad
