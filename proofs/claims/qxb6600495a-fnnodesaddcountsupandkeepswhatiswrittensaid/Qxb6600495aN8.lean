import Derived.Test.Qxb6600495aN7
namespace Go.Proofs.Qxb6600495a.Nodes
open Go.RowKit

theorem setkey_any (w : World) (g o : Nat) (z : Int) (u : Value) (hc : w.cell? ⟨g, o, none⟩ = some u) (hf : w.frozen? ⟨g, o, none⟩ = false) :
    Calls Try.prog 18 #[.pointer (some ⟨g, o, none⟩), .int .i32 z] w fun e w' => e = .returned (.tuple #[]) ∧ w' = w.setCell ⟨g, o, none⟩ (.int .i32 z) := by
  go_enter Try.func18, Try.ntmps18
  go_wp2
  go_end0
  exact ⟨rfl, rfl⟩

theorem key_any (w : World) (g o : Nat) (z : Int) (hc : w.cell? ⟨g, o, none⟩ = some (.int .i32 z)) :
    Calls Try.prog 20 #[.pointer (some ⟨g, o, none⟩)] w fun e w' => e = .returned (.int .i32 z) ∧ w' = w := by
  go_enter Try.func20, Try.ntmps20
  go_wp2
  go_ret
  exact ⟨rfl, rfl⟩

theorem nlen_any (w : World) (B p n : Nat) (cs : List Chunk) (h : Store B w p n cs) :
    Calls Try.prog 19 #[.pointer (some ⟨p, 0, none⟩)] w fun e w' => e = .returned (.int .i32 n) ∧ w' = w := by
  obtain ⟨v, h1, h2, h3, h4, h5⟩ := h
  have c1 : w.cell? ⟨p, 1, none⟩ = some (.int .i32 n) := cell_of_row w p 1 _ 51 (0, 0) h2
  clear h1 h2 h3 h4 h5
  go_enter Try.func19, Try.ntmps19
  go_wp2
  go_ret
  exact ⟨rfl, rfl⟩

theorem at_any (w : World) (B p n i j : Nat) (cs : List Chunk) (c : Chunk) (h : Store B w p n cs) (hi : cs[i]? = some c) (hj : j < c.L) :
    Calls Try.prog 21 #[.pointer (some ⟨p, 0, none⟩), .int .i64 i, .int .i64 j] w fun e w' => e = .returned (.pointer (some ⟨c.g, j * 7, none⟩)) ∧ w' = w := by
  obtain ⟨v, h1, h2, h3, h4, h5⟩ := h
  have hlt : i < cs.length := (List.getElem?_eq_some_iff.1 hi).1
  obtain ⟨b, cap, rfl, hBb, hblt⟩ := h3.form (by omega)
  have c0 : w.cell? ⟨p, 0, none⟩ = some (.slice (some ⟨b, 0, none⟩) cs.length cap) := cell_of_row w p 0 _ 51 (0, 0) h2
  have cg : w.cell? ⟨b, i, none⟩ = some (.slice (some ⟨c.g, 0, none⟩) c.L c.L) := by
    rw [h3.cellAt i (by omega), List.getElem?_map, hi]; rfl
  clear h1 h2 h3 h4 h5
  go_enter Try.func21, Try.ntmps21
  go_wp2
  go_ret
  exact ⟨by simp; done, rfl⟩

set_option maxHeartbeats 400000 in
theorem adds_out (a0 a1 : Int) (h : a0 < 0 ∨ 4096 < a0 ∨ a1 < 0 ∨ 65536 < a1) (w : World) :
    Calls Try.prog 6 #[.int .i64 a0, .int .i64 a1] w fun e w' => e = .returned (.bool true) ∧ Below w.heap.size w w' := by
  by_cases h1 : a0 < 0
  · go_enter Try.func6, Try.ntmps6
    go_wp2
    go_ret
    exact ⟨rfl, Below.refl _ _⟩
  by_cases h2 : 4096 < a0
  · go_enter Try.func6, Try.ntmps6
    go_wp2
    go_ret
    exact ⟨rfl, Below.refl _ _⟩
  by_cases h3 : a1 < 0
  · go_enter Try.func6, Try.ntmps6
    go_wp2
    go_ret
    exact ⟨rfl, Below.refl _ _⟩
  have h4 : 65536 < a1 := by omega
  go_enter Try.func6, Try.ntmps6
  go_wp2
  go_ret
  exact ⟨rfl, Below.refl _ _⟩

/-- The loop's state: the store, its lengths, its marks. -/
def MarkInv (w wr : World) (p f k : Nat) (cs : List Chunk) : Prop := LoopInv w wr p f k cs ∧ Con k cs

theorem node_cells {B : Nat} {w : World} {p n k : Nat} {cs : List Chunk} {c : Chunk} (h : Store B w p n cs) (hcon : Con k cs) (h1 : cs[k / 4096]? = some c) (h2 : k % 4096 < c.L) (r : Nat) (hr : r < 7) :
    w.cell? ⟨c.g, k % 4096 * 7 + r, none⟩ = some (zc r) ∧ w.frozen? ⟨c.g, k % 4096 * 7 + r, none⟩ = false := by
  obtain ⟨v, _, _, _, h4, _⟩ := h
  have ca := h4 c (List.mem_of_getElem? h1)
  refine ⟨?_, frozen_of_row w c.g _ _ 39 ca.2.1⟩
  rw [cell_of_row w c.g _ _ 39 (0, 0) ca.2.1, hcon _ c h1 _ (by omega), mk_zero _ _ _ (by omega), show (k % 4096 * 7 + r) % 7 = r by omega]

theorem mark_step {w wr w2 : World} {p f k : Nat} {cs cs' : List Chunk} {c : Chunk} (hI : MarkInv w wr p f k cs) (h1 : Store w.heap.size w2 p (k + 1) cs') (h2 : Below w.heap.size wr w2) (h3 : cs'[k / 4096]? = some c) (h4 : k % 4096 < c.L) (h5 : Step k cs cs') :
    MarkInv w (w2.setCell ⟨c.g, k % 4096 * 7, none⟩ (.int .i32 ((k + 1 : Nat) : Int))) p f (k + 1) (cs'.set (k / 4096) ⟨c.g, c.L, c.xs.setIfInBounds (k % 4096 * 7) (.int .i32 ((k + 1 : Nat) : Int))⟩) := by
  obtain ⟨⟨s1, s2, s3⟩, s4⟩ := hI
  have hc := con_step s2 s1.sized s4 h5
  have hL := invL_step f k _ _ s2 (step_lens h5)
  obtain ⟨k1, k2⟩ := store_key (o := k % 4096 * 7) (z := ((k + 1 : Nat) : Int)) h1 h3
  refine ⟨⟨k1, ?_, (s3.trans h2).trans k2⟩, con_mark hc h3 h4 (inv_le hL) h1.sized⟩
  have hlt : k / 4096 < cs'.length := (List.getElem?_eq_some_iff.1 h3).1
  have e : (cs'.set (k / 4096) ⟨c.g, c.L, c.xs.setIfInBounds (k % 4096 * 7) (.int .i32 ((k + 1 : Nat) : Int))⟩).map Chunk.L = cs'.map Chunk.L := by
    rw [List.map_set]
    apply List.ext_getElem?
    intro j
    by_cases hj : k / 4096 = j
    · subst hj
      rw [List.getElem?_set_self (by simpa using hlt), List.getElem?_map, h3]
      rfl
    · rw [List.getElem?_set_ne hj]
  rw [e]
  exact hL

theorem read_node {w wr : World} {p f k j : Nat} {cs : List Chunk} (hI : MarkInv w wr p f k cs) (hj : j < k) :
    ∃ c, cs[j / 4096]? = some c ∧ j % 4096 < c.L ∧ wr.cell? ⟨c.g, j % 4096 * 7, none⟩ = some (.int .i32 ((j : Int) + 1)) := by
  obtain ⟨⟨s1, s2, s3⟩, s4⟩ := hI
  have hl := s2.1
  simp only [List.length_map] at hl
  have hlt : j / 4096 < cs.length := by omega
  have hc : cs[j / 4096]? = some cs[j / 4096] := List.getElem?_eq_getElem hlt
  have hL : j % 4096 < (cs[j / 4096]).L := by
    by_cases h : j / 4096 + 1 < cs.length
    · obtain ⟨c', h1, h2⟩ := inv_mid s2 h
      rw [hc] at h1
      rw [Option.some.inj h1]; omega
    · obtain ⟨c', h1, h2, h3⟩ := inv_last s2 (by omega)
      rw [show cs.length - 1 = j / 4096 by omega, hc] at h1
      rw [Option.some.inj h1]
      by_cases hx : f = 0 ∨ 1 < cs.length
      · have := h2 hx; omega
      · have := h3 (by omega); omega
  refine ⟨cs[j / 4096], hc, hL, ?_⟩
  obtain ⟨v, _, _, _, h4, _⟩ := s1
  have ca := h4 _ (List.mem_of_getElem? hc)
  rw [cell_of_row wr _ _ _ 39 (0, 0) ca.2.1, s4 _ _ hc _ (by omega)]
  unfold mk
  rw [if_pos (by omega)]
  congr 2
  omega

set_option maxRecDepth 100000 in
set_option maxHeartbeats 1600000 in
theorem adds_in (f N : Nat) (hf : f ≤ 4096) (hN : N ≤ 65536) (w : World) :
    Calls Try.prog 6 #[.int .i64 f, .int .i64 N] w fun e w' => e = .returned (.bool true) ∧ Below w.heap.size w w' := by
  have hneq : ∀ wx, (binOp .neq 39 (.agg #[.int .i32 0, .int .i32 0, .int .i32 0, .int .i32 0, .int .u8 0, .int .u8 0, .int .u16 0]) (.agg #[.int .i32 0, .int .i32 0, .int .i32 0, .int .i32 0, .int .u8 0, .int .u8 0, .int .u16 0])).run Try.prog wx = .ok (.bool false) wx := fun _ => by kernel_rfl
  go_enter Try.func6, Try.ntmps6
  go_wp2_with fail
  refine (start_any w f hf).mono ?_
  rintro e w1 ⟨p, rfl, hst, hbl⟩
  have H : MarkInv w w1 p f 0 (cks0 f w.heap.size) := ⟨⟨hst, invL_start f hf _ (by unfold cks0; split <;> simp), hbl⟩, con_start _ _⟩
  clear hst hbl
  go_wp2
  go_loopw [6] (fun i wr => ∃ (k : Nat) (cs : List Chunk), k ≤ N ∧ i = .int .i64 k ∧ MarkInv w wr p f k cs) (fun i _ => N - (intOf i).toNat)
  case atStart => exact ⟨0, _, Nat.zero_le _, rfl, H⟩
  case round =>
    obtain ⟨k, cs, hk, rfl, hI⟩ := hrel
    clear H
    by_cases hlt : k < N
    · go_wp2_with fail
      refine (zzadd_any wr w.heap.size p k cs (by omega) hI.1.1 (inv_ok hI.1.2.1)).mono ?_
      rintro e w2 ⟨cs', c, rfl, h1, h2, h3, h4, h5⟩
      have H2 := mark_step hI h1 h2 h3 h4 h5
      have hn := node_cells h1 (con_step hI.1.2.1 hI.1.1.sized hI.2 h5) h3 h4
      have n0 : w2.cell? ⟨c.g, k % 4096 * 7, none⟩ = some (.int .i32 0) := (hn 0 (by omega)).1
      have n1 : w2.cell? ⟨c.g, k % 4096 * 7 + 1, none⟩ = some (.int .i32 0) := (hn 1 (by omega)).1
      have n2 : w2.cell? ⟨c.g, k % 4096 * 7 + 2, none⟩ = some (.int .i32 0) := (hn 2 (by omega)).1
      have n3 : w2.cell? ⟨c.g, k % 4096 * 7 + 3, none⟩ = some (.int .i32 0) := (hn 3 (by omega)).1
      have n4 : w2.cell? ⟨c.g, k % 4096 * 7 + 4, none⟩ = some (.int .u8 0) := (hn 4 (by omega)).1
      have n5 : w2.cell? ⟨c.g, k % 4096 * 7 + 5, none⟩ = some (.int .u8 0) := (hn 5 (by omega)).1
      have n6 : w2.cell? ⟨c.g, k % 4096 * 7 + 6, none⟩ = some (.int .u16 0) := (hn 6 (by omega)).1
      have f0 : w2.frozen? ⟨c.g, k % 4096 * 7, none⟩ = false := (hn 0 (by omega)).2
      clear h1 h2 h3 h4 h5 hI hn
      rw [show ((k + 1 : Nat) : Int) = (k : Int) + 1 by omega] at H2
      go_wp2_with fail
      refine (setkey_any w2 c.g (k % 4096 * 7) ((k : Int) + 1) _ n0 f0).mono ?_
      rintro e w3 ⟨rfl, rfl⟩
      clear n0 n1 n2 n3 n4 n5 n6 f0
      go_wp2
      go_roundw
      case rel => exact ⟨k + 1, _, by omega, by go_num, H2⟩
      case measure => simp [intOf]; omega
    · obtain rfl : k = N := by omega
      clear hneq
      go_wp2_with fail
      refine (nlen_any wr w.heap.size p k cs hI.1.1).mono ?_
      rintro e w2 ⟨rfl, rfl⟩
      go_wp2
      go_loop [9] (fun i => ∃ j : Nat, j ≤ k ∧ i = .int .i64 j) (fun i => k - (intOf i).toNat)
      case atStart => exact ⟨0, Nat.zero_le _, rfl⟩
      case round =>
        obtain ⟨j, hj, rfl⟩ := hrel
        by_cases hjk : j < k
        · obtain ⟨c, hc, hcL, hcell⟩ := read_node hI hjk
          go_wp2_with fail
          refine (at_any w2 w.heap.size p k (j / 4096) (j % 4096) cs c hI.1.1 hc hcL).mono ?_
          rintro e w3 ⟨rfl, rfl⟩
          go_wp2_with fail
          refine (key_any w3 c.g (j % 4096 * 7) ((j : Int) + 1) hcell).mono ?_
          rintro e w4 ⟨rfl, rfl⟩
          go_wp2
          go_round
          case rel => exact ⟨j + 1, by omega, by go_num⟩
          case measure => simp [intOf]; omega
        · go_wp2
          go_ret
          exact ⟨rfl, hI.1.2.2⟩
end Go.Proofs.Qxb6600495a.Nodes
