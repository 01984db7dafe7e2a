import Derived.Test.Qxb6600495aRows
import Derived.WalkKit
import Derived.ProofKit
import Derived.WalkSpells
import Derived.WalkLawsBesides
import Derived.Laws.Pointers
import Derived.Deep.QuietTactic
import Derived.BigQuiet
import Derived.Deep.RegionHeld3
import Derived.Deep.RegionLaw
import Derived.Deep.AppendLies
import Derived.Deep.DrawnRows
namespace Go.Proofs.Qxb6600495a.Nodes
open Go.RowKit

def zN : Value := .agg #[.int .i32 0, .int .i32 0, .int .i32 0, .int .i32 0, .int .u8 0, .int .u8 0, .int .u16 0]
def zs (n : Nat) : Array Value := madeCells zN.cells (n * 7)

def Same (w w' : World) : Prop := w'.heap = w.heap ∧ w'.os = w.os ∧ w'.tape = w.tape ∧ w'.output = w.output

theorem i32_and4095 (n : Int) : bits .and .i32 n 4095 = n % 4096 := by
  have h127 : (BitVec.ofInt 32 4095).toNat = 2 ^ 12 - 1 := by decide
  have key : (BitVec.ofInt 32 n &&& BitVec.ofInt 32 4095).toNat = (n % ((2 ^ 32 : Nat) : Int)).toNat % 2 ^ 12 := by
    rw [BitVec.toNat_and, BitVec.toNat_ofInt, h127, Nat.and_two_pow_sub_one_eq_mod]
  show IntKind.i32.wrap ((BitVec.ofInt 32 n &&& BitVec.ofInt 32 4095).toNat : Nat) = n % 4096
  rw [key, IntKind.wrap_i32]
  omega

set_option maxRecDepth 100000 in
set_option maxHeartbeats 800000 in
theorem add_stay (w : World) (p b g n L cap m : Nat) (hn : n < 65536)
    (h0 : w.cell? ⟨p, 0, none⟩ = some (.slice (some ⟨b, 0, none⟩) m cap)) (h1 : w.cell? ⟨p, 1, none⟩ = some (.int .i32 n)) (f1 : w.frozen? ⟨p, 1, none⟩ = false)
    (hpb : b ≠ p)
    (hm : n / 4096 < m) (hg : w.cell? ⟨b, n / 4096, none⟩ = some (.slice (some ⟨g, 0, none⟩) L L)) (hL : n % 4096 < L) :
    Calls Try.prog 26 #[.pointer (some ⟨p, 0, none⟩)] w fun e w' => e = .returned (.tuple #[.int .i32 n, .pointer (some ⟨g, n % 4096 * 7, none⟩)]) ∧
      Same (w.setCell ⟨p, 1, none⟩ (.int .i32 (n + 1))) w' := by
  have hb := i32_and4095 n
  have t1 : ((n : Int) / 4096 == (m : Int)) = false := by simp; omega
  have t2 : ((n : Int) % 4096 == (L : Int)) = false := by simp; omega
  have hm' : (n : Int) / 4096 < (m : Int) := by omega
  have hL' : (n : Int) % 4096 < (L : Int) := by omega
  go_enter Try.func26, Try.ntmps26
  go_wp2
  go_quiet (fail)
  go_wp2
  go_quiet (fail)
  go_wp2
  go_ret2
  exact ⟨by simp; done, rfl, rfl, rfl, rfl⟩

theorem info53 : (Try.prog.info? 53).map (fun i => (i.zero, i.size, i.bytes)) = some (some (.slice none 0 0), 1, 24) := by kernel_rfl
theorem info39 : (Try.prog.info? 39).map (fun i => (i.zero, i.size, i.bytes)) = some (some zN, 7, 20) := by kernel_rfl

theorem make_run (w : World) (k : IntKind) (n : Nat) (hn : n ≤ 65536) :
    (Instr.makeSlice 53 (.int k (n : Int)) (.int k (n : Int))).run Try.prog w = .ok (.slice (some ⟨w.heap.size, 0, none⟩) n n) (w.alloc (.cells (zs n) 39)) := by
  obtain ⟨i0, hi, hz0, hz1, hz2⟩ := info_parts info39
  have h := run_make (P := Try.prog) w 53 39 i0 zN Try.underlying53 hi hz0 k k n n (by omega) (by omega) (by rw [hz2]; omega) (by omega)
  simpa [hz1, zs] using h

theorem heap2 (w : World) (A B : Obj) {k : Nat} (h : w.heap.size = k) : ((w.alloc A).alloc B).heap[k + 1]? = some B := by
  subst h; exact heap_alloc2_new w A B

theorem keep_alloc {w : World} {p o : Nat} {v : Value} {c : Array Value} {t : TypeId} (h : w.cell? ⟨p, o, none⟩ = some v ∧ w.frozen? ⟨p, o, none⟩ = false) :
    (w.alloc (.cells c t)).cell? ⟨p, o, none⟩ = some v ∧ (w.alloc (.cells c t)).frozen? ⟨p, o, none⟩ = false :=
  ⟨by rw [World.cell?_alloc_some _ _ _ (by rw [h.1]; rfl)]; exact h.1, by rw [frozen?_alloc_cells]; exact h.2⟩
theorem keep_grow {w w1 : World} {p o : Nat} {v : Value} {row : Option Nat} (hg : w.grownBy w1 row) (hp : row ≠ some p) (h : w.cell? ⟨p, o, none⟩ = some v ∧ w.frozen? ⟨p, o, none⟩ = false) :
    w1.cell? ⟨p, o, none⟩ = some v ∧ w1.frozen? ⟨p, o, none⟩ = false := by
  have hlt := World.block_lt_of_cell? w _ h.1
  exact ⟨by rw [hg.cell_far _ hlt (Ne.symm hp)]; exact h.1, by rw [hg.frozen_far _ hlt (Ne.symm hp)]; exact h.2⟩
theorem last_cell {w : World} {B g k cap : Nat} {xs : List Value} {u : Value} (h : w.ownsRow B 53 1 (.slice (some ⟨g, 0, none⟩) (k + 1) cap) (k + 1) (xs ++ [u])) :
    w.cell? ⟨g, k, none⟩ = some u := by
  have hl := h.1
  simp at hl
  rw [h.cellAt k (by omega), List.getElem?_append_right (by omega)]
  simp [hl]
theorem ne_of_at {o : Option Nat} {p g H : Nat} (hpb : o ≠ some p) (hat : o = some g ∨ g = H) (hp : p < H) : g ≠ p := by
  rintro rfl
  rcases hat with h | h
  · exact hpb h
  · omega
theorem grown_redraw {w w1 : World} {k : Nat} {A C : Obj} {row : Option Nat} (h : (((w.drewN k).alloc A).alloc C).grownBy w1 row) : ((w.alloc A).alloc C).grownBy w1 row :=
  ⟨h.os, h.tape, h.output, h.size, h.block⟩

attribute [local go_sem ↓] Go.wp_at_zero Go.wp_at_succ

set_option maxRecDepth 100000 in
set_option maxHeartbeats 3200000 in
theorem add_new (Z : Array Value) (hmk : ∀ w', (Instr.makeSlice 53 (.int .i64 4096) (.int .i64 4096)).run Try.prog w' = .ok (.slice (some ⟨w'.heap.size, 0, none⟩) 4096 4096) (w'.alloc (.cells Z 39)))
    (w : World) (B p n : Nat) (v : Value) (xs : List Value) (hn : n < 65536) (hB : B ≤ w.heap.size)
    (h0 : w.cell? ⟨p, 0, none⟩ = some v) (h1 : w.cell? ⟨p, 1, none⟩ = some (.int .i32 n)) (f0 : w.frozen? ⟨p, 0, none⟩ = false) (f1 : w.frozen? ⟨p, 1, none⟩ = false)
    (hown : w.ownsRow B 53 1 v (n / 4096) xs) (hpb : v.ownBlock ≠ some p) :
    Calls Try.prog 26 #[.pointer (some ⟨p, 0, none⟩)] w fun e w' => e = .returned (.tuple #[.int .i32 n, .pointer (some ⟨w.heap.size, n % 4096 * 7, none⟩)]) ∧
      ∃ g cap w1, w1.ownsRow B 53 1 (.slice (some ⟨g, 0, none⟩) (n / 4096 + 1) cap) (n / 4096 + 1) (xs ++ [.slice (some ⟨w.heap.size, 0, none⟩) 4096 4096]) ∧
        ((w.alloc (.cells Z 39)).alloc (.cells #[.slice (some ⟨w.heap.size, 0, none⟩) 4096 4096] 53)).grownBy w1 v.ownBlock ∧ (v.ownBlock = some g ∨ g = w.heap.size + 2) ∧
        Same ((w1.setCell ⟨p, 0, none⟩ (.slice (some ⟨g, 0, none⟩) (n / 4096 + 1) cap)).setCell ⟨p, 1, none⟩ (.int .i32 (n + 1))) w' := by
  have hb := i32_and4095 n
  obtain ⟨i0, hi, hz0, hz1, hz2⟩ := info_parts info53
  have lp : p < w.heap.size := World.block_lt_of_cell? w _ h0
  obtain ⟨ao, cap, hv⟩ : ∃ ao cap, v = .slice ao (n / 4096) cap := by
    rcases hown.2 with ⟨h, h'⟩ | ⟨g, cap, cur, h, _⟩
    · exact ⟨none, 0, by rw [h, h']⟩
    · exact ⟨_, cap, h⟩
  subst hv
  have t1 : ((n : Int) / 4096 == ((n / 4096 : Nat) : Int)) = true := by simp
  have hA1 : ∀ k c t, ((w.drewN k).alloc (.cells c t)).cell? ⟨p, 0, none⟩ = some (.slice ao (n / 4096) cap) := fun k c t => (keep_alloc (w := w.drewN k) ⟨h0, f0⟩).1
  have hA2 : ∀ k c t c' t', (((w.drewN k).alloc (.cells c t)).alloc (.cells c' t')).cell? ⟨p, 0, none⟩ = some (.slice ao (n / 4096) cap) := fun k c t c' t' => (keep_alloc (keep_alloc (w := w.drewN k) ⟨h0, f0⟩)).1
  go_enter Try.func26, Try.ntmps26
  go_wp2
  go_quiet (fail)
  go_wp2
  go_region_law
    ((refine step_append_lies _ (by rfl) _ _ _ (by rfl) B 53 i0 _ 1 24 Try.underlying49 hi hz0 hz1 hz2 rfl (by omega) (.slice ao (n / 4096) cap) (n / 4096) xs (by rfl) (((hown.alloc _).alloc _).drew)
        ⟨w.heap.size + 1, 0, none⟩ 1 1 [.slice (some ⟨w.heap.size, 0, none⟩) 4096 4096] (by rfl) (by rfl) (World.news_of_block (cs := #[.slice (some ⟨w.heap.size, 0, none⟩) 4096 4096]) (t := 53) (fr := (0, 0)) (heap2 _ _ _ (by rfl))) (by simp [Value.oneCell'])
        (by omega) (by unfold maxLen; omega) (by omega) (by simp; omega) (w.heap.size + 2) (by simp) ?_; intro gg cap' w1 hown1 hgrow hat hlt; obtain ⟨c1, f1'⟩ := keep_grow hgrow hpb (keep_alloc (keep_alloc ⟨h0, f0⟩)); obtain ⟨c2, f2'⟩ := keep_grow hgrow hpb (keep_alloc (keep_alloc ⟨h1, f1⟩)); have r1 := last_cell hown1; have hne : gg ≠ p := ne_of_at hpb hat (by omega); have HG := grown_redraw hgrow; have HO : Hid _ := hown1; clear hown1 hgrow))
  all_goals
    go_wp2
    go_quiet (fail)
    go_wp2
    go_ret2
    exact ⟨by simp; done, _, _, _, HO, HG, hat, rfl, rfl, rfl, rfl⟩
end Go.Proofs.Qxb6600495a.Nodes
