import Derived.Test.Qxb6600495aN2
namespace Go.Proofs.Qxb6600495a.Nodes
open Go.RowKit

theorem size_zs (n : Nat) : (zs n).size = n * 7 := size_madeCells _ _
theorem zs_at (n i : Nat) (h : i < n * 7) : (zs n)[i]? = zN.cells[i % 7]? := by
  have h7 : i % 7 < zN.cells.size := by show i % 7 < 7; omega
  simp only [zs, madeCells, Array.getElem?_map, Array.getElem?_range, h, if_true, Option.map_some]
  rw [show zN.cells.size = 7 from rfl] 
  rw [getElem!_pos zN.cells (i % 7) h7, Array.getElem?_eq_getElem h7]
theorem one_zs (n : Nat) : ∀ u ∈ zs n, u.oneCell' = true := by
  intro u hu
  obtain ⟨i, hi, rfl⟩ := Array.mem_iff_getElem.1 hu
  have hi' : i < n * 7 := by rw [← size_zs n]; exact hi
  have e := zs_at n i hi'
  rw [Array.getElem?_eq_getElem hi] at e
  have h7 : i % 7 = 0 ∨ i % 7 = 1 ∨ i % 7 = 2 ∨ i % 7 = 3 ∨ i % 7 = 4 ∨ i % 7 = 5 ∨ i % 7 = 6 := by omega
  rcases h7 with h | h | h | h | h | h | h <;> (rw [h] at e; have e' := Option.some.inj (e.trans rfl); rw [e']; rfl)

/-- What an add does to the chunks. -/
def Step (n : Nat) (cs cs' : List Chunk) : Prop :=
  (n / 4096 = cs.length ∧ ∃ g, cs' = cs ++ [⟨g, 4096, zs 4096⟩]) ∨
  (∃ c, cs[n / 4096]? = some c ∧ n % 4096 < c.L ∧ cs' = cs) ∨
  (∃ c g, cs[n / 4096]? = some c ∧ n % 4096 = c.L ∧ cs' = cs.set (n / 4096) ⟨g, min (2 * c.L) 4096, c.xs ++ (zs (min (2 * c.L) 4096)).extract (c.L * 7) (min (2 * c.L) 4096 * 7)⟩)

def Ok (n : Nat) (cs : List Chunk) : Prop := n / 4096 = cs.length ∨ ∃ c, cs[n / 4096]? = some c ∧ (n % 4096 < c.L ∨ (n % 4096 = c.L ∧ 1 ≤ c.L))

theorem add_any (w : World) (B p n : Nat) (cs : List Chunk) (hn : n < 65536) (h : Store B w p n cs) (hok : Ok n cs) :
    Calls Try.prog 26 #[.pointer (some ⟨p, 0, none⟩)] w fun e w' => ∃ cs' c, e = .returned (.tuple #[.int .i32 n, .pointer (some ⟨c.g, n % 4096 * 7, none⟩)]) ∧
      Store B w' p (n + 1) cs' ∧ Below B w w' ∧ cs'[n / 4096]? = some c ∧ n % 4096 < c.L ∧ Step n cs cs' := by
  have h' := h
  obtain ⟨v, h1, h2, h3, h4, h5⟩ := h
  have hp : p < w.heap.size := (Array.getElem?_eq_some_iff.1 h2).1
  have c0 : w.cell? ⟨p, 0, none⟩ = some v := cell_of_row w p 0 _ 51 (0, 0) h2
  have c1 : w.cell? ⟨p, 1, none⟩ = some (.int .i32 n) := cell_of_row w p 1 _ 51 (0, 0) h2
  have f0 := frozen_of_row w p 0 _ 51 h2
  have f1 := frozen_of_row w p 1 _ 51 h2
  have hr := Store.row_ne h2 h3
  rcases hok with hnew | ⟨c, hc, hcL⟩
  · refine (add_new (zs 4096) (fun w' => make_run w' .i64 4096 (by omega)) w B p n v (cs.map Chunk.val) hn (by omega) c0 c1 f0 f1 (by rw [hnew]; exact h3) hr).mono ?_
    rintro e w' ⟨rfl, g, cap, w1, ho, hg, hat, hs⟩
    rw [hnew] at ho hs
    obtain ⟨hst, hbl⟩ := store_new h1 h2 h3 h4 h5 (size_zs 4096) (one_zs 4096) ho hg hat ((n : Int) + 1) (n + 1) (by omega)
    refine ⟨cs ++ [⟨w.heap.size, 4096, zs 4096⟩], ⟨w.heap.size, 4096, zs 4096⟩, rfl, hst.of_heap hs.1, below_same hbl hs, ?_, ?_, .inl ⟨hnew, _, rfl⟩⟩
    · rw [hnew]; simp
    · show n % 4096 < 4096; omega
  · have hlt : n / 4096 < cs.length := (List.getElem?_eq_some_iff.1 hc).1
    obtain ⟨b, cap, rfl, hBb, hblt⟩ := h3.form (by omega)
    have hbp : b ≠ p := by simpa [Value.ownBlock] using hr
    have cg : w.cell? ⟨b, n / 4096, none⟩ = some (.slice (some ⟨c.g, 0, none⟩) c.L c.L) := by
      rw [h3.cellAt (n / 4096) (by omega), List.getElem?_map, hc]; rfl
    have fg := h3.frozenAt (n / 4096)
    have hcm : c ∈ cs := List.mem_of_getElem? hc
    have ca := h4 c hcm
    rcases hcL with hcL | ⟨hcL, hc1⟩
    · refine (add_stay w p b c.g n c.L cap cs.length hn c0 c1 f1 hbp hlt cg hcL).mono ?_
      rintro e w' ⟨rfl, hs⟩
      have hst := store_count (m := n + 1) h'
      refine ⟨cs, c, rfl, hst.of_heap (by rw [hs.1]; rfl), below_same (Below.setCell (Below.refl _ _) h1 _) hs, hc, hcL, .inr (.inl ⟨c, hc, hcL, rfl⟩)⟩
    · rw [← hcL] at cg
      refine (add_grow (zs (min (2 * (n % 4096)) 4096)) (min (2 * (n % 4096)) 4096) w p b cs.length cap c.g n c.xs hn rfl (size_zs _) (by rw [hcL]; exact ca.2.2.1) ca.2.2.2 (by omega) (fun w' => make_run w' .i32 _ (by omega)) c0 c1 f0 f1 hbp hlt cg fg ca.2.1).mono ?_
      rintro e w' ⟨rfl, w2, hz, hg, _, hs⟩
      have hsz : (c.xs ++ (zs (min (2 * (n % 4096)) 4096)).extract (n % 4096 * 7) (min (2 * (n % 4096)) 4096 * 7)).size = min (2 * (n % 4096)) 4096 * 7 := by
        simp [size_zs, ca.2.2.1, ← hcL]; omega
      have h1c : ∀ u ∈ c.xs ++ (zs (min (2 * (n % 4096)) 4096)).extract (n % 4096 * 7) (min (2 * (n % 4096)) 4096 * 7), u.oneCell' = true := by
        intro u hu
        rcases Array.mem_append.1 hu with hu | hu
        · exact ca.2.2.2 u hu
        · exact one_zs (min (2 * (n % 4096)) 4096) u (by obtain ⟨i, hi, rfl⟩ := Array.mem_iff_getElem.1 hu; simp)
      obtain ⟨hst, hbl⟩ := store_grow (k := n / 4096) h1 h2 h3 h4 h5 hsz h1c hz hg ((n : Int) + 1) (M := n + 1) (by omega)
      refine ⟨_, ⟨w.heap.size, min (2 * (n % 4096)) 4096, c.xs ++ (zs (min (2 * (n % 4096)) 4096)).extract (n % 4096 * 7) (min (2 * (n % 4096)) 4096 * 7)⟩, rfl, hst.of_heap hs.1, below_same hbl hs, ?_, ?_, .inr (.inr ⟨c, w.heap.size, hc, hcL, by rw [hcL]⟩)⟩
      · rw [List.getElem?_set_self hlt]
      · show n % 4096 < min (2 * (n % 4096)) 4096; omega
end Go.Proofs.Qxb6600495a.Nodes
