import Derived.Test.Qxb6600550aA0
import Derived.Test.Qxb6600550aProg
import Derived.WalkKit
import Derived.ProofKit
import Derived.WalkSpells
import Derived.WalkLawsBesides
import Derived.Laws.Pointers
import Derived.Deep.QuietTactic
import Derived.BigQuiet
import Derived.Deep.RegionHeld3
import Derived.Deep.RegionLaw
import Derived.Deep.DrawnRows
import Derived.Lib.AppendZerosOnto
namespace Go.Proofs.Qxb6600550a.Rad
open Go.RowKit

/-- Block g holds the candidates cs in its first cells. -/
def Buf (w : World) (g n : Nat) (cs : List Cd) : Prop :=
  ∃ arr : Array Value, w.heap[g]? = some (.cells arr 35 (0, 0)) ∧ cs.length = n ∧ ∀ j c, cs[j]? = some c →
    arr[j * 4]? = some (.int .u64 (c.1 : Nat)) ∧ arr[j * 4 + 1]? = some (.pointer none) ∧ arr[j * 4 + 2]? = some (.int .i32 c.2.1) ∧ arr[j * 4 + 3]? = some (.int .i32 c.2.2)

/-- Block s holds the table T. -/
def Tab (w : World) (s : Nat) (T : Nat → Nat → Nat) : Prop :=
  ∃ C : Array Value, w.heap[s]? = some (.cells C 89 (0, 0)) ∧ C.size = 2048 ∧ ∀ b d, b < 8 → d < 256 → C[b * 256 + d]? = some (.int .i64 (T b d : Nat))

theorem Buf.of_heap {w w' : World} {g n : Nat} {cs : List Cd} (h : Buf w g n cs) (e : w'.heap[g]? = w.heap[g]?) : Buf w' g n cs := by
  obtain ⟨arr, h1, h2⟩ := h
  exact ⟨arr, by rw [e]; exact h1, h2⟩
theorem Tab.of_heap {w w' : World} {s : Nat} {T : Nat → Nat → Nat} (h : Tab w s T) (e : w'.heap[s]? = w.heap[s]?) : Tab w' s T := by
  obtain ⟨arr, h1, h2⟩ := h
  exact ⟨arr, by rw [e]; exact h1, h2⟩
theorem Buf.len {w : World} {g n : Nat} {cs : List Cd} (h : Buf w g n cs) : cs.length = n := by obtain ⟨_, _, h, _⟩ := h; exact h
theorem Buf.lt {w : World} {g n : Nat} {cs : List Cd} (h : Buf w g n cs) : g < w.heap.size := by
  obtain ⟨arr, h1, _⟩ := h
  exact (Array.getElem?_eq_some_iff.1 h1).1
theorem Tab.lt {w : World} {s : Nat} {T : Nat → Nat → Nat} (h : Tab w s T) : s < w.heap.size := by
  obtain ⟨arr, h1, _⟩ := h
  exact (Array.getElem?_eq_some_iff.1 h1).1
theorem Buf.ne_tab {w : World} {g n s : Nat} {cs : List Cd} {T : Nat → Nat → Nat} (h : Buf w g n cs) (h' : Tab w s T) : g ≠ s := by
  rintro rfl
  obtain ⟨arr, h1, _⟩ := h
  obtain ⟨C, h2, _⟩ := h'
  rw [h1] at h2
  simp at h2
theorem Buf.cells {w : World} {g n : Nat} {cs : List Cd} (h : Buf w g n cs) {j : Nat} {c : Cd} (hj : cs[j]? = some c) :
    w.cell? ⟨g, j * 4, none⟩ = some (.int .u64 (c.1 : Nat)) ∧ w.cell? ⟨g, j * 4 + 1, none⟩ = some (.pointer none) ∧ w.cell? ⟨g, j * 4 + 2, none⟩ = some (.int .i32 c.2.1) ∧ w.cell? ⟨g, j * 4 + 3, none⟩ = some (.int .i32 c.2.2) := by
  obtain ⟨arr, h1, _, h3⟩ := h
  obtain ⟨a, b, c', d⟩ := h3 j c hj
  refine ⟨?_, ?_, ?_, ?_⟩ <;> rw [cell_of_row w g _ arr 35 (0, 0) h1] <;> assumption
theorem Buf.frozen {w : World} {g n : Nat} {cs : List Cd} (h : Buf w g n cs) (o : Nat) : w.frozen? ⟨g, o, none⟩ = false := by
  obtain ⟨arr, h1, _⟩ := h
  exact frozen_of_row w g o arr 35 h1
theorem Tab.cell {w : World} {s : Nat} {T : Nat → Nat → Nat} (h : Tab w s T) {b d : Nat} (hb : b < 8) (hd : d < 256) : w.cell? ⟨s, b * 256 + d, none⟩ = some (.int .i64 (T b d : Nat)) := by
  obtain ⟨C, h1, _, h3⟩ := h
  rw [cell_of_row w s _ C 89 (0, 0) h1]
  exact h3 b d hb hd
theorem Tab.frozen {w : World} {s : Nat} {T : Nat → Nat → Nat} (h : Tab w s T) (o : Nat) : w.frozen? ⟨s, o, none⟩ = false := by
  obtain ⟨C, h1, _⟩ := h
  exact frozen_of_row w s o C 89 h1

def upd (T : Nat → Nat → Nat) (b d v : Nat) : Nat → Nat → Nat := fun b' d' => if b' = b ∧ d' = d then v else T b' d'

theorem Tab.store {w : World} {s : Nat} {T : Nat → Nat → Nat} (h : Tab w s T) {b d v : Nat} (hd : d < 256) : Tab (w.setCell ⟨s, b * 256 + d, none⟩ (.int .i64 (v : Nat))) s (upd T b d v) := by
  obtain ⟨C, h1, h2, h3⟩ := h
  refine ⟨_, heap_setCell_same w s _ C 89 _ h1, by simpa using h2, fun b' d' hb' hd' => ?_⟩
  unfold upd
  by_cases he : b' = b ∧ d' = d
  · obtain ⟨rfl, rfl⟩ := he
    rw [if_pos ⟨rfl, rfl⟩, Array.getElem?_setIfInBounds_self_of_lt (by omega)]
  · rw [if_neg he, Array.getElem?_setIfInBounds_ne (by omega)]
    exact h3 b' d' hb' hd'

/-- A whole candidate stored at place j. -/
def put (w : World) (g j : Nat) (c : Cd) : World :=
  (((w.setCell ⟨g, j * 4, none⟩ (.int .u64 (c.1 : Nat))).setCell ⟨g, j * 4 + 1, none⟩ (.pointer none)).setCell ⟨g, j * 4 + 2, none⟩ (.int .i32 c.2.1)).setCell ⟨g, j * 4 + 3, none⟩ (.int .i32 c.2.2)

theorem put_heap (w : World) (g j k : Nat) (c : Cd) (h : k ≠ g) : (put w g j c).heap[k]? = w.heap[k]? := by
  unfold put
  rw [heap_setCell_other _ _ _ _ h, heap_setCell_other _ _ _ _ h, heap_setCell_other _ _ _ _ h, heap_setCell_other _ _ _ _ h]
theorem put_size (w : World) (g j : Nat) (c : Cd) : (put w g j c).heap.size = w.heap.size := by simp [put]

theorem Buf.put {w : World} {g n : Nat} {cs : List Cd} (h : Buf w g n cs) {j : Nat} (hj : j < n) (c : Cd) : Buf (put w g j c) g n (cs.set j c) := by
  obtain ⟨arr, h1, h2, h3⟩ := h
  have hs : j * 4 + 3 < arr.size := by
    have := (h3 j cs[j] (List.getElem?_eq_getElem (by omega))).2.2.2
    exact (Array.getElem?_eq_some_iff.1 this).1
  refine ⟨_, heap_setCell_same _ g _ _ 35 _ (heap_setCell_same _ g _ _ 35 _ (heap_setCell_same _ g _ _ 35 _ (heap_setCell_same w g _ arr 35 _ h1))), by simpa using h2, fun i c' hi => ?_⟩
  by_cases he : j = i
  · subst he
    rw [List.getElem?_set_self (by omega)] at hi
    obtain rfl := Option.some.inj hi
    refine ⟨?_, ?_, ?_, ?_⟩
    · rw [Array.getElem?_setIfInBounds_ne (by omega), Array.getElem?_setIfInBounds_ne (by omega), Array.getElem?_setIfInBounds_ne (by omega), Array.getElem?_setIfInBounds_self_of_lt (by first | omega | (simp; omega))]
    · rw [Array.getElem?_setIfInBounds_ne (by omega), Array.getElem?_setIfInBounds_ne (by omega), Array.getElem?_setIfInBounds_self_of_lt (by first | omega | (simp; omega))]
    · rw [Array.getElem?_setIfInBounds_ne (by omega), Array.getElem?_setIfInBounds_self_of_lt (by first | omega | (simp; omega))]
    · rw [Array.getElem?_setIfInBounds_self_of_lt (by first | omega | (simp; omega))]
  · rw [List.getElem?_set_ne he] at hi
    obtain ⟨a, b, d, e⟩ := h3 i c' hi
    refine ⟨?_, ?_, ?_, ?_⟩
    · rw [Array.getElem?_setIfInBounds_ne (by omega), Array.getElem?_setIfInBounds_ne (by omega), Array.getElem?_setIfInBounds_ne (by omega), Array.getElem?_setIfInBounds_ne (by omega)]; exact a
    · rw [Array.getElem?_setIfInBounds_ne (by omega), Array.getElem?_setIfInBounds_ne (by omega), Array.getElem?_setIfInBounds_ne (by omega), Array.getElem?_setIfInBounds_ne (by omega)]; exact b
    · rw [Array.getElem?_setIfInBounds_ne (by omega), Array.getElem?_setIfInBounds_ne (by omega), Array.getElem?_setIfInBounds_ne (by omega), Array.getElem?_setIfInBounds_ne (by omega)]; exact d
    · rw [Array.getElem?_setIfInBounds_ne (by omega), Array.getElem?_setIfInBounds_ne (by omega), Array.getElem?_setIfInBounds_ne (by omega), Array.getElem?_setIfInBounds_ne (by omega)]; exact e

theorem Below.put {B : Nat} {a w : World} (h : Below B a w) {g : Nat} (hg : B ≤ g) (j : Nat) (c : Cd) : Below B a (put w g j c) :=
  (((h.setCell hg _).setCell hg _).setCell hg _).setCell hg _

theorem wpList_alloc_at {P : Program} {w : World} {ops : Array Oper} {rest : List Oper} {a : Act} {Q : Exit → Act → World → Prop} {d : Option Tmp} {t ty : TypeId} {pos : String} {after : Array Edge} (Z : Array Value)
    (hrun : ∀ w, (Instr.alloc t true (.tuple #[])).run P w = .ok (.pointer (some ⟨w.heap.size, 0, none⟩)) (w.alloc (.cells Z t)))
    (h : wpList P ops Q rest (a.put d (.pointer (some ⟨w.heap.size, 0, none⟩))) (w.alloc (.cells Z t))) : wpList P ops Q (⟨d, .alloc t, ty, pos, after, none⟩ :: rest) a w := by
  refine wpList_plain rfl fun K hK => ?_
  unfold Oper.wp
  simp [execOp, hrun, Result.andThen]
  exact hK _ _ h

def Z89 : Array Value := Array.replicate 2048 (.int .i64 0)
theorem info89 : (Try.prog.info? 89).map (fun i => (i.zero, i.size)) = some (some (.agg Z89), 2048) := by kernel_rfl
theorem alloc89 (w : World) : (Instr.alloc 89 true (.tuple #[])).run Try.prog w = .ok (.pointer (some ⟨w.heap.size, 0, none⟩)) (w.alloc (.cells Z89 89)) := by
  obtain ⟨i, hi, hzz⟩ := Option.map_eq_some_iff.1 info89
  simp only [Prod.mk.injEq] at hzz
  obtain ⟨h1, h2⟩ := hzz
  have hc : (Value.agg Z89).cells = Z89 := rfl
  simp [Instr.alloc, newVar, zeroValue, typeInfo, hi, h1, newRow, hc]
theorem tab_zero (w : World) : Tab (w.alloc (.cells Z89 89)) w.heap.size (fun _ _ => 0) := by
  refine ⟨Z89, heap_alloc_new w _, by simp [Z89], fun b d hb hd => ?_⟩
  unfold Z89
  rw [Array.getElem?_replicate, if_pos (by omega)]
  rfl

/-! ### The small callees -/
theorem new_any (r : Nat) (i k : Int) (w : World) :
    Calls Try.prog 34 #[.int .u64 (r : Nat), .int .i32 i, .int .i32 k] w fun e w' => e = .returned (.agg #[.int .u64 (r : Nat), .pointer none, .int .i32 i, .int .i32 k]) ∧ w' = w.alloc (.cells #[.int .u64 (r : Nat), .pointer none, .int .i32 i, .int .i32 k] 35) := by
  go_enter Try.func34, Try.ntmps34
  go_wp2
  exact bodyPost_ret (v := .agg #[.int .u64 (r : Nat), .pointer none, .int .i32 i, .int .i32 k]) (by simp [results, Try.results34, go_sem]) rfl ⟨rfl, rfl⟩

theorem rank_any (r : Nat) (i k : Int) (w : World) :
    Calls Try.prog 12 #[.agg #[.int .u64 (r : Nat), .pointer none, .int .i32 i, .int .i32 k]] w fun e w' => e = .returned (.int .u64 (r : Nat)) ∧ w' = w.alloc (.cells #[.int .u64 (r : Nat), .pointer none, .int .i32 i, .int .i32 k] 35) := by
  go_enter Try.func12, Try.ntmps12
  go_wp2
  go_ret
  exact ⟨rfl, rfl⟩
theorem tag_any (r : Nat) (i k : Int) (w : World) :
    Calls Try.prog 13 #[.agg #[.int .u64 (r : Nat), .pointer none, .int .i32 i, .int .i32 k]] w fun e w' => e = .returned (.int .i32 i) ∧ w' = w.alloc (.cells #[.int .u64 (r : Nat), .pointer none, .int .i32 i, .int .i32 k] 35) := by
  go_enter Try.func13, Try.ntmps13
  go_wp2
  go_ret
  exact ⟨rfl, rfl⟩
theorem kind_any (r : Nat) (i k : Int) (w : World) :
    Calls Try.prog 14 #[.agg #[.int .u64 (r : Nat), .pointer none, .int .i32 i, .int .i32 k]] w fun e w' => e = .returned (.int .i32 k) ∧ w' = w.alloc (.cells #[.int .u64 (r : Nat), .pointer none, .int .i32 i, .int .i32 k] 35) := by
  go_enter Try.func14, Try.ntmps14
  go_wp2
  go_ret
  exact ⟨rfl, rfl⟩

theorem grow_room (a : Option Addr) (l c n : Nat) (w : World) (hlc : l ≤ c) (hc63 : c ≤ 9223372036854775807) (hn63 : n ≤ 1048576) (hroom : l + n ≤ c) :
    Calls Try.prog 42 #[.slice a l c, .int .i64 n] w fun e w' => e = .returned (.slice a l c) ∧ w' = w := by
  go_enter Try.func42, Try.ntmps42
  go_wp2
  go_ret
  exact ⟨rfl, rfl⟩

def zC : Value := .agg #[.int .u64 0, .pointer none, .int .i32 0, .int .i32 0]
theorem info35 : (Try.prog.info? 35).map (fun i => (i.zero, i.size, i.bytes)) = some (some zC, 4, 24) := by kernel_rfl
theorem zeroCells_at (k i : Nat) (h : i < k * 4) : (Builtin.zeroCells zC.cells k)[i]? = zC.cells[i % 4]? := by
  have h4 : i % 4 < zC.cells.size := by show i % 4 < 4; omega
  have e : zC.cells.size = 4 := rfl
  simp only [Builtin.zeroCells, e, Array.getElem?_map, Array.getElem?_range, h, if_true, Option.map_some]
  rw [getElem!_pos zC.cells (i % 4) h4, Array.getElem?_eq_getElem h4]
theorem zC_at (r : Nat) : (r = 0 → zC.cells[r]? = some (.int .u64 0)) ∧ (r = 1 → zC.cells[r]? = some (.pointer none)) ∧ (r = 2 → zC.cells[r]? = some (.int .i32 0)) ∧ (r = 3 → zC.cells[r]? = some (.int .i32 0)) := by
  refine ⟨?_, ?_, ?_, ?_⟩ <;> (rintro rfl; rfl)

theorem grown_buf {w' : World} {G c n k2 : Nat} {bs : List Cd} {vs : List Value} (hc : c ≤ n) (hb : bs.length = c) (hvl : vs.length = c * 4)
    (hv : ∀ j c', bs[j]? = some c' → vs[j * 4]? = some (.int .u64 (c'.1 : Nat)) ∧ vs[j * 4 + 1]? = some (.pointer none) ∧ vs[j * 4 + 2]? = some (.int .i32 c'.2.1) ∧ vs[j * 4 + 3]? = some (.int .i32 c'.2.2))
    (hh : w'.heap[G]? = some (.cells (vs.toArray ++ Builtin.zeroCells zC.cells (n - c) ++ Builtin.zeroCells zC.cells k2) 35 (0, 0))) :
    Buf w' G n (bs ++ List.replicate (n - c) (0, 0, 0)) := by
  refine ⟨_, hh, by simp; omega, fun j c' hj => ?_⟩
  have hzl : (Builtin.zeroCells zC.cells (n - c)).size = (n - c) * 4 := by rw [size_zeroCells]; rfl
  have hjn : j < n := by have := (List.getElem?_eq_some_iff.1 hj).1; simp at this; omega
  have hL : ∀ q, q < 4 → (vs.toArray ++ Builtin.zeroCells zC.cells (n - c) ++ Builtin.zeroCells zC.cells k2)[j * 4 + q]? = (vs.toArray ++ Builtin.zeroCells zC.cells (n - c))[j * 4 + q]? := fun q hq => by
    rw [Array.getElem?_append_left]
    simp only [Array.size_append, List.size_toArray, hzl, hvl]
    omega
  by_cases hjc : j < c
  · rw [List.getElem?_append_left (by omega)] at hj
    obtain ⟨a, b, d, e⟩ := hv j c' hj
    have hR : ∀ q, q < 4 → (vs.toArray ++ Builtin.zeroCells zC.cells (n - c) ++ Builtin.zeroCells zC.cells k2)[j * 4 + q]? = vs[j * 4 + q]? := fun q hq => by
      rw [hL q hq, Array.getElem?_append_left (by simp; omega)]
      simp
    exact ⟨by rw [← Nat.add_zero (j * 4), hR 0 (by omega), Nat.add_zero]; exact a, by rw [hR 1 (by omega)]; exact b, by rw [hR 2 (by omega)]; exact d, by rw [hR 3 (by omega)]; exact e⟩
  · rw [List.getElem?_append_right (by omega)] at hj
    have hc0 : c' = (0, 0, 0) := by
      rw [List.getElem?_replicate] at hj
      split at hj
      · exact (Option.some.inj hj).symm
      · cases hj
    subst hc0
    have hR : ∀ q, q < 4 → (vs.toArray ++ Builtin.zeroCells zC.cells (n - c) ++ Builtin.zeroCells zC.cells k2)[j * 4 + q]? = zC.cells[q]? := fun q hq => by
      rw [hL q hq, Array.getElem?_append_right (by simp; omega)]
      simp only [List.size_toArray, hvl]
      rw [zeroCells_at _ _ (by omega), show (j * 4 + q - c * 4) % 4 = q by omega]
    exact ⟨by rw [← Nat.add_zero (j * 4), hR 0 (by omega)]; rfl, by rw [hR 1 (by omega)]; rfl, by rw [hR 2 (by omega)]; rfl, by rw [hR 3 (by omega)]; rfl⟩

set_option maxRecDepth 100000 in
set_option maxHeartbeats 1600000 in
theorem grow_grow (b c n : Nat) (cs : List Value) (w : World) (hroom : c < n) (hn : n ≤ 1048576) (hcl : cs.length = c * 4) (hcs : ∀ j v, cs[j]? = some v → w.cell? ⟨b, j, none⟩ = some v) :
    Calls Try.prog 42 #[.slice (some ⟨b, 0, none⟩) 0 c, .int .i64 n] w fun e w' => ∃ G, n ≤ G ∧ G ≤ 9223372036854775807 ∧ e = .returned (.slice (some ⟨w.heap.size, 0, none⟩) 0 G) ∧
      w' = w.drew.alloc (.cells (cs.toArray ++ Builtin.zeroCells zC.cells (n - c) ++ Builtin.zeroCells zC.cells (G - n)) 35) := by
  obtain ⟨i0, hi0, hz0, hz1, hz2⟩ := info_parts info35
  have hold : (Builtin.firstCells i0.size c (.slice (some ⟨b, 0, none⟩) c c)).run Try.prog w.drew = .ok cs.toArray w.drew := by
    refine run_firstCells_some w.drew i0.size c ⟨b, 0, none⟩ c c cs (by rw [hz1]; exact hcl) (fun j v hj => ?_)
    have hadd : (⟨b, 0, none⟩ : Addr).add j = ⟨b, j, none⟩ := by unfold Addr.add; split <;> simp_all
    rw [hadd]
    exact hcs j v hj
  have hck : c + (n - c) = n := by omega
  have hrz : ∀ ty, (Builtin.append_ #[24, 3] ty #[.slice (some ⟨b, 0, none⟩) c c, .int .i64 ((n : Int) - (c : Int))]).run Try.prog w =
      .ok (.slice (some ⟨w.heap.size, 0, none⟩) n (grownCap w n c 35)) (w.drew.alloc (.cells (cs.toArray ++ Builtin.zeroCells zC.cells (n - c) ++ Builtin.zeroCells zC.cells (grownCap w n c 35 - n)) 35)) := fun ty => by
    have h := Lib.run_append_grow_zeros w 24 3 ty 35 i0 zC .i64 .i64 Try.underlying24 Try.underlying3 hi0 hz0 (some ⟨b, 0, none⟩) c c cs hold (n - c) (by omega) (by omega) (by omega) (by omega) (by rw [hz2]; omega)
      (by rw [hck, hz2]; exact growslice_fits hroom (by omega))
    rw [hck] at h
    rw [show (n : Int) - (c : Int) = ((n - c : Nat) : Int) by omega]
    exact h
  have hGn : n ≤ grownCap w n c 35 := grownCap_ge w _ _ _
  have hG63 : grownCap w n c 35 ≤ 9223372036854775807 := by
    have := grownCap_le_maxLen w n c 35 (by unfold maxLen; omega)
    unfold maxLen at this
    omega
  obtain ⟨G, hG⟩ : ∃ G, G = grownCap w n c 35 := ⟨_, rfl⟩
  rw [← hG] at hrz hGn hG63
  obtain ⟨R, hR⟩ : ∃ R, R = cs.toArray ++ Builtin.zeroCells zC.cells (n - c) ++ Builtin.zeroCells zC.cells (G - n) := ⟨_, rfl⟩
  rw [← hR] at hrz
  have HR : Hid (R = cs.toArray ++ Builtin.zeroCells zC.cells (n - c) ++ Builtin.zeroCells zC.cells (G - n)) := hR
  clear hold hck hG hcs hcl hi0 hz0 hz1 hz2 hR
  go_enter Try.func42, Try.ntmps42
  go_wp2_with (at_builtin; refine Lib.wpList_append_run _ rfl _ _ _ _ rfl _ _ rfl rfl _ _ (hrz _) ?_)
  go_ret
  exact ⟨G, hGn, hG63, rfl, by rw [← HR.out]; rfl⟩

/-- slices.Grow(spare[:0], n): room for n candidates. -/
theorem grow_any (b c m n : Nat) (bs : List Cd) (w : World) (hn : n ≤ 1048576) (hc63 : c ≤ 9223372036854775807) (hb : Buf w b m bs) (hm : (n ≤ c ∧ m = n) ∨ (c < n ∧ m = c)) :
    Calls Try.prog 42 #[.slice (some ⟨b, 0, none⟩) 0 c, .int .i64 n] w fun e w' => ∃ g c' bs', e = .returned (.slice (some ⟨g, 0, none⟩) 0 c') ∧ n ≤ c' ∧ c' ≤ 9223372036854775807 ∧ Buf w' g n bs' ∧ (g = b ∨ g = w.heap.size) ∧ w.grownBy w' none := by
  rcases hm with ⟨h1, rfl⟩ | ⟨h1, rfl⟩
  · refine (grow_room _ 0 c m w (by omega) hc63 hn (by omega)).mono ?_
    rintro e w' ⟨rfl, rfl⟩
    exact ⟨b, c, bs, rfl, h1, hc63, hb, .inl rfl, World.grownBy.refl _ _⟩
  · obtain ⟨arr, a1, a2, a3⟩ := hb
    have hsz : m * 4 ≤ arr.size := by
      by_cases h0 : m = 0
      · omega
      · have := (a3 (m - 1) bs[m - 1] (List.getElem?_eq_getElem (by omega))).2.2.2
        have := (Array.getElem?_eq_some_iff.1 this).1
        omega
    have hget : ∀ j v, (arr.toList.take (m * 4))[j]? = some v → arr[j]? = some v := fun j v hv => by
      rw [List.getElem?_take] at hv
      split at hv
      · simpa using hv
      · cases hv
    refine (grow_grow b m n (arr.toList.take (m * 4)) w h1 hn (by simp; omega) (fun j v hv => ?_)).mono ?_
    · rw [cell_of_row w b j arr 35 (0, 0) a1]
      exact hget j v hv
    · rintro e w' ⟨G, g1, g2, rfl, rfl⟩
      refine ⟨_, G, _, rfl, g1, g2, grown_buf (c := m) (by omega) a2 (by simp; omega) (fun j c' hj => ?_) (heap_alloc_new w.drew _), .inr rfl, ⟨rfl, rfl, rfl, by simp, fun k hk _ => Below.heap_alloc w.drew _ k hk⟩⟩
      have hjm : j < m := by have := (List.getElem?_eq_some_iff.1 hj).1; omega
      obtain ⟨x0, x1, x2, x3⟩ := a3 j c' hj
      refine ⟨?_, ?_, ?_, ?_⟩ <;> (rw [List.getElem?_take, if_pos (by omega)]; simp; assumption)
end Go.Proofs.Qxb6600550a.Rad
