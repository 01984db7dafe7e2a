import Derived.Test.Qxb6600550aA8
import Derived.Deep.Slices
import Derived.OpenShut
namespace Go.Proofs.Qxb6600550a.Rad
open Go.ChangeShapes Go.WideShapes Go.ChangeAt Go.RowKit

theorem cells64 : Try.prog.cellsOf 64 = 2 := by kernel_rfl
theorem cells31 : Try.prog.cellsOf 31 = 1 := by kernel_rfl
theorem cells21 : Try.prog.cellsOf 21 = 1 := by kernel_rfl

/-- A slice of ZCand that can be read as data, as the walks take it. -/
theorem crow_of {H : Type} {enc : TypeId × Value → H} {W : World} {base : Nat} {spare : Nat → Bool} {held : Bool} {fuel : Nat} {a : Option Addr} {len cap : Nat} {x : DataW H × List MemPlace}
    (h : DataW.trod enc Try.prog W base spare held fuel 22 [.slice a len cap] = some x) : ∃ zs, CRow W a len zs ∧ len ≤ 9223372036854775807 := by
  rcases Deep.open_slice Try.underlying22 h with ⟨hcs, _⟩ | ⟨b, l, c, m, n, D, Pl, hcs, _, hl, hm, hmm, _, hx⟩
  · simp at hcs
    obtain ⟨rfl, rfl, rfl⟩ := hcs
    exact ⟨[], ⟨rfl, by simp, by omega⟩, by omega⟩
  · simp at hcs
    obtain ⟨rfl, rfl, rfl⟩ := hcs
    have hlm : len ≤ m := by rw [hmm]; split <;> omega
    have key : ∀ i, i < len → ∃ z : Nat × Int, z.1 < 18446744073709551616 ∧ W.cell? (b.add (i * 2)) = some (.int .u64 (z.1 : Nat)) ∧ W.cell? ((b.add (i * 2)).add 1) = some (.int .i32 z.2) := by
      intro i hi
      obtain ⟨cs', h1, h2⟩ := hx i (by omega)
      rw [cells64] at h1
      obtain ⟨_, hlen, hcell⟩ := World.cells?_some h1
      obtain ⟨y0, y1, n', _, _, t0, t1⟩ := trod_struct2 Try.underlying64 h2
      simp only [cells31, cells21] at t0 t1
      obtain ⟨r, e0, _, wr⟩ := DataW.trod_int Try.underlying31 t0
      obtain ⟨k, e1, _, _⟩ := DataW.trod_int Try.underlying21 t1
      have hr := bounds_u64 wr
      obtain ⟨R, rfl⟩ := Int.eq_ofNat_of_zero_le hr.1
      match cs', hlen with
      | [v0, v1], _ =>
        simp at e0 e1
        subst e0 e1
        refine ⟨(R, k), by omega, ?_, ?_⟩
        · have := hcell 0 (by omega)
          simpa [Addr.add] using this
        · have := hcell 1 (by omega)
          simpa using this
    obtain ⟨V, hV⟩ := Deep.choose_lt key
    unfold maxLen at hm
    refine ⟨(List.range len).map V, ⟨by simp, fun z hz => ?_, fun h0 => ?_⟩, by omega⟩
    · obtain ⟨i, hi, rfl⟩ := List.mem_map.1 hz
      exact (hV i (by simpa using hi)).1
    · obtain ⟨bb, oo, sp⟩ := b
      have hsp : sp = none := by simpa [Addr.add] using World.cell?_spot (hV 0 h0).2.1
      subst hsp
      refine ⟨bb, oo, rfl, fun i z hi => ?_⟩
      have hil : i < len := by have := (List.getElem?_eq_some_iff.1 hi).1; simpa using this
      have hz : z = V i := by
        rw [List.getElem?_map, List.getElem?_range hil] at hi
        exact (Option.some.inj hi).symm
      subst hz
      obtain ⟨_, h1, h2⟩ := hV i hil
      rw [add_plain] at h1 h2
      rw [add_plain] at h2
      exact ⟨h1, h2⟩

theorem law3 (a0 a1 : Option Addr) (n0 c0 n1 c1 : Nat) (zs us : List (Nat × Int)) (w : World) (m0 : n0 ≤ 9223372036854775807) (m1 : n1 ≤ 9223372036854775807) (r0 : CRow w a0 n0 zs) (r1 : CRow w a1 n1 us) :
    Calls Try.prog 3 #[.slice a0 n0 c0, .slice a1 n1 c1] w fun e w' => e = .returned (.bool true) ∧ Below w.heap.size w w' := by
  by_cases h : 32768 < n0 ∨ 32768 < n1 ∨ 65536 < n0 + n1
  · exact law_out a0 a1 n0 c0 n1 c1 w m0 m1 h
  · exact law_in a0 a1 n0 c0 n1 c1 zs us w (by omega) (by omega) (by omega) r0 r1
end Go.Proofs.Qxb6600550a.Rad
