import Derived.Test.Qxb6600550aA4
import Derived.Deep.RegionWith
namespace Go.Proofs.Qxb6600550a.Rad
open Go.RowKit

/-- The n elements of a slice of ZCand at a are zs: rank, kind. -/
def CRow (w : World) (a : Option Addr) (n : Nat) (zs : List (Nat × Int)) : Prop :=
  zs.length = n ∧ (∀ z ∈ zs, z.1 < 18446744073709551616) ∧ (0 < n → ∃ b off, a = some ⟨b, off, none⟩ ∧ ∀ i z, zs[i]? = some z → w.cell? ⟨b, off + i * 2, none⟩ = some (.int .u64 (z.1 : Nat)) ∧ w.cell? ⟨b, off + i * 2 + 1, none⟩ = some (.int .i32 z.2))

theorem CRow.kept {w w' : World} {a : Option Addr} {n : Nat} {zs : List (Nat × Int)} (h : CRow w a n zs) (hb : Below w.heap.size w w') : CRow w' a n zs := by
  obtain ⟨hl, hz, hc⟩ := h
  refine ⟨hl, hz, fun h0 => ?_⟩
  obtain ⟨b, off, rfl, hc'⟩ := hc h0
  refine ⟨b, off, rfl, fun i z hi => ?_⟩
  have hlt := World.block_lt_of_cell? w _ (hc' i z hi).1
  exact ⟨(hb.cell hlt).trans (hc' i z hi).1, (hb.cell (p := ⟨b, off + i * 2 + 1, none⟩) hlt).trans (hc' i z hi).2⟩

/-- The candidates that zzToCandidates makes. -/
def tl (tg : Bool) : List (Nat × Int) → Nat → List Cd
  | [], _ => []
  | z :: r, p => (z.1, (if tg = true then (p : Int) else -1), z.2) :: tl tg r (p + 1)
theorem tl_len (tg : Bool) (zs : List (Nat × Int)) : ∀ p, (tl tg zs p).length = zs.length := by
  induction zs with
  | nil => intro p; rfl
  | cons z r ih => intro p; simp [tl, ih]
theorem tl_at (tg : Bool) (zs : List (Nat × Int)) : ∀ (p i : Nat) (z : Nat × Int), zs[i]? = some z → (tl tg zs p)[i]? = some (z.1, (if tg = true then ((p + i : Nat) : Int) else -1), z.2) := by
  induction zs with
  | nil => intro p i z h; simp at h
  | cons y r ih =>
    intro p i z h
    cases i with
    | zero => simp at h; subst h; simp [tl]
    | succ i =>
      simp at h
      rw [tl]
      simp only [List.getElem?_cons_succ]
      rw [ih (p + 1) i z h, show p + 1 + i = p + (i + 1) by omega]

def part (cs : List Cd) (k : Nat) : List Cd := cs.take k ++ List.replicate (cs.length - k) (0, 0, 0)
theorem part_set (cs : List Cd) (k : Nat) (c : Cd) (h : cs[k]? = some c) : (part cs k).set k c = part cs (k + 1) := by
  have hk : k < cs.length := (List.getElem?_eq_some_iff.1 h).1
  have hc : cs[k] = c := by rw [List.getElem?_eq_getElem hk] at h; exact Option.some.inj h
  have e : cs.length - k = (cs.length - (k + 1)) + 1 := by omega
  rw [part, part, List.set_append_right _ _ (by simp; omega), e, List.replicate_succ]
  simp only [List.length_take, Nat.min_eq_left (Nat.le_of_lt hk), Nat.sub_self, List.set_cons_zero]
  rw [List.take_succ_eq_append_getElem hk, hc]
  simp
theorem part_full (cs : List Cd) : part cs cs.length = cs := by simp [part]
theorem part_zero (cs : List Cd) : part cs 0 = List.replicate cs.length (0, 0, 0) := by simp [part]

theorem make35 (n : Nat) (hn : n ≤ 1048576) : ∃ M : Array Value, (∀ w : World, (Instr.makeSlice 24 (.int .i64 (n : Int)) (.int .i64 (n : Int))).run Try.prog w = .ok (.slice (some ⟨w.heap.size, 0, none⟩) n n) (w.alloc (.cells M 35))) ∧
    ∀ w : World, Buf (w.alloc (.cells M 35)) w.heap.size n (List.replicate n (0, 0, 0)) := by
  obtain ⟨i0, hi, hz0, hz1, hz2⟩ := info_parts info35
  refine ⟨madeCells zC.cells (n * 4), fun w => ?_, fun w => ⟨_, heap_alloc_new w _, by simp, fun j c hj => ?_⟩⟩
  · have h := run_make (P := Try.prog) w 24 35 i0 zC Try.underlying24 hi hz0 .i64 .i64 n n (by omega) (by omega) (by rw [hz2]; omega) (by omega)
    simpa [hz1] using h
  · have hjn : j < n := by have := (List.getElem?_eq_some_iff.1 hj).1; simpa using this
    obtain rfl : c = (0, 0, 0) := by
      rw [List.getElem?_replicate, if_pos hjn] at hj
      exact (Option.some.inj hj).symm
    have hm : ∀ q, q < 4 → (madeCells zC.cells (n * 4))[j * 4 + q]? = zC.cells[q]? := fun q hq => by
      have h4 : (j * 4 + q) % 4 < zC.cells.size := by show (j * 4 + q) % 4 < 4; omega
      have e : zC.cells.size = 4 := rfl
      simp only [madeCells, e, Array.getElem?_map, Array.getElem?_range, show j * 4 + q < n * 4 by omega, if_true, Option.map_some]
      rw [getElem!_pos zC.cells ((j * 4 + q) % 4) h4, ← Array.getElem?_eq_getElem h4, show (j * 4 + q) % 4 = q by omega]
    exact ⟨by rw [← Nat.add_zero (j * 4), hm 0 (by omega)]; rfl, by rw [hm 1 (by omega)]; rfl, by rw [hm 2 (by omega)]; rfl, by rw [hm 3 (by omega)]; rfl⟩

/-- The loop's state. -/
structure MkInv (w wr : World) (n : Nat) (cs : List Cd) (k : Nat) : Prop where
  b : Buf wr w.heap.size n (part cs k)
  bel : Below w.heap.size w wr

theorem MkInv.step {w wr : World} {n : Nat} {cs : List Cd} {k : Nat} {c : Cd} (h : MkInv w wr n cs k) (hl : cs.length = n) (hc : cs[k]? = some c) (o : Obj) (q : Nat) : MkInv w ((put (wr.alloc o) w.heap.size k c).drewN q) n cs (k + 1) := by
  have hk : k < cs.length := (List.getElem?_eq_some_iff.1 hc).1
  have h1 := (h.b.of_heap (w' := wr.alloc o) (Below.heap_alloc _ _ _ h.b.lt)).put (j := k) (by omega) c
  rw [part_set cs k c hc] at h1
  have h2 := Below.put (h.bel.alloc (by have := h.b.lt; omega) o) (Nat.le_refl w.heap.size) k c
  generalize put (wr.alloc o) w.heap.size k c = wy at h1 h2 ⊢
  exact ⟨h1, ⟨h2.os, h2.tape, h2.output, h2.size, h2.block⟩⟩

/-- What the round asks. -/
theorem MkInv.facts {w wr : World} {n : Nat} {cs : List Cd} {k : Nat} (h : MkInv w wr n cs k) (hk : k < n) : ∃ u0 u1 u2 u3 : Value,
    (∀ o, (wr.alloc o).cell? ⟨w.heap.size, k * 4, none⟩ = some u0) ∧ (∀ o, (wr.alloc o).cell? ⟨w.heap.size, k * 4 + 1, none⟩ = some u1) ∧ (∀ o, (wr.alloc o).cell? ⟨w.heap.size, k * 4 + 2, none⟩ = some u2) ∧ (∀ o, (wr.alloc o).cell? ⟨w.heap.size, k * 4 + 3, none⟩ = some u3) ∧
      (∀ o i, (wr.alloc o).frozen? ⟨w.heap.size, i, none⟩ = false) := by
  have hp : k < (part cs k).length := by rw [h.b.len]; exact hk
  obtain ⟨a, b, c, d⟩ := h.b.cells (List.getElem?_eq_getElem hp)
  have e : ∀ o i, (wr.alloc o).cell? ⟨w.heap.size, i, none⟩ = wr.cell? ⟨w.heap.size, i, none⟩ := fun o i => World.cell?_of_block (Below.heap_alloc _ _ _ h.b.lt)
  exact ⟨_, _, _, _, fun o => (e o _).trans a, fun o => (e o _).trans b, fun o => (e o _).trans c, fun o => (e o _).trans d, fun o i => (World.frozen?_of_block (Below.heap_alloc _ _ _ h.b.lt)).trans (h.b.frozen i)⟩

set_option maxHeartbeats 1600000 in
theorem mk_row (tg : Bool) (b off n cap : Nat) (zs : List (Nat × Int)) (w : World) (hn : n ≤ 1048576) (hl : zs.length = n) (hc : ∀ i z, zs[i]? = some z → w.cell? ⟨b, off + i * 2, none⟩ = some (.int .u64 (z.1 : Nat)) ∧ w.cell? ⟨b, off + i * 2 + 1, none⟩ = some (.int .i32 z.2)) :
    Calls Try.prog 8 #[.slice (some ⟨b, off, none⟩) n cap, .bool tg] w fun e w' => e = .returned (.slice (some ⟨w.heap.size, 0, none⟩) n n) ∧ Buf w' w.heap.size n (tl tg zs 0) ∧ Below w.heap.size w w' := by
  obtain ⟨M, hmk, hMb⟩ := make35 n hn
  have HI0 : Hid (MkInv w (w.alloc (.cells M 35)) n (tl tg zs 0) 0) := ⟨by have := hMb w; rw [part_zero, tl_len, hl]; exact this, (Below.refl _ _).alloc (Nat.le_refl _) _⟩
  have HC : Hid (∀ i z, zs[i]? = some z → w.cell? ⟨b, off + i * 2, none⟩ = some (.int .u64 (z.1 : Nat)) ∧ w.cell? ⟨b, off + i * 2 + 1, none⟩ = some (.int .i32 z.2)) := hc
  have HL : Hid (zs.length = n) := hl
  clear hMb hc hl
  go_enter Try.func8, Try.ntmps8
  go_wp2
  go_loopw [6] (fun i wr => ∃ k : Nat, k ≤ n ∧ i = .int .i64 k ∧ Hid (MkInv w wr n (tl tg zs 0) k)) (fun i _ => n - (intOf i).toNat)
  case atStart => exact ⟨0, Nat.zero_le _, rfl, HI0⟩
  case round =>
    obtain ⟨k, hk, rfl, HI⟩ := hrel
    clear HI0 hmk
    by_cases hlt : k < n
    · obtain ⟨z, hz⟩ : ∃ z, zs[k]? = some z := ⟨_, List.getElem?_eq_getElem (by rw [HL.out]; exact hlt)⟩
      obtain ⟨q0, q1⟩ := HC.out k z hz
      have hbl : b < w.heap.size := World.block_lt_of_cell? w _ q0
      have q0 := (HI.out.bel.cell (p := ⟨b, off + k * 2, none⟩) hbl).trans q0
      have q1 := (HI.out.bel.cell (p := ⟨b, off + k * 2 + 1, none⟩) hbl).trans q1
      obtain ⟨u0, u1, u2, u3, f0, f1, f2, f3, f4⟩ := HI.out.facts hlt
      have hst := fun o q => HI.out.step (by rw [tl_len]; exact HL.out) (tl_at tg zs 0 k z hz) o q
      rw [Nat.zero_add] at hst
      obtain ⟨rk, kd⟩ := z
      clear hz HI
      cases tg with
      | true =>
        have HST : Hid (∀ o q, MkInv w ((put (wr.alloc o) w.heap.size k (rk, (k : Int), kd)).drewN q) n (tl true zs 0) (k + 1)) := hst
        clear hst
        go_wp2
        go_region_with (go_at_call 34; refine (new_any _ _ _ _).mono ?_; rintro e w' ⟨rfl, rfl⟩)
        all_goals
          go_wp2
          go_roundw
          case rel => exact ⟨k + 1, by omega, by go_num, HST.out _ 1⟩
          case measure => simp [intOf]; omega
      | false =>
        have HST : Hid (∀ o q, MkInv w ((put (wr.alloc o) w.heap.size k (rk, -1, kd)).drewN q) n (tl false zs 0) (k + 1)) := hst
        clear hst
        go_wp2
        go_region_with (go_at_call 34; refine (new_any _ _ _ _).mono ?_; rintro e w' ⟨rfl, rfl⟩)
        all_goals
          go_wp2
          go_roundw
          case rel => exact ⟨k + 1, by omega, by go_num, HST.out _ 1⟩
          case measure => simp [intOf]; omega
    · obtain rfl : k = n := by omega
      go_wp2
      go_ret
      exact ⟨rfl, by have := HI.out.b; rw [← HL.out, ← tl_len tg zs 0, part_full] at this; rw [← HL.out, ← tl_len tg zs 0]; exact this, HI.out.bel⟩

theorem mk_empty (tg : Bool) (a : Option Addr) (cap : Nat) (w : World) :
    Calls Try.prog 8 #[.slice a 0 cap, .bool tg] w fun e w' => e = .returned (.slice (some ⟨w.heap.size, 0, none⟩) 0 0) ∧ Buf w' w.heap.size 0 [] ∧ Below w.heap.size w w' := by
  obtain ⟨M, hmk, hMb⟩ := make35 0 (by omega)
  have HB : Hid (Buf (w.alloc (.cells M 35)) w.heap.size 0 []) := hMb w
  rw [show ((0 : Nat) : Int) = 0 from rfl] at hmk
  clear hMb
  go_enter Try.func8, Try.ntmps8
  go_wp2
  refine wp_loop_rounds 1 ?_
  rw [rounds_succ]
  go_wp2
  go_ret
  exact ⟨rfl, HB, (Below.refl _ _).alloc (Nat.le_refl _) _⟩

theorem mk_any (tg : Bool) (a : Option Addr) (n cap : Nat) (zs : List (Nat × Int)) (w : World) (hn : n ≤ 1048576) (h : CRow w a n zs) :
    Calls Try.prog 8 #[.slice a n cap, .bool tg] w fun e w' => e = .returned (.slice (some ⟨w.heap.size, 0, none⟩) n n) ∧ Buf w' w.heap.size n (tl tg zs 0) ∧ Below w.heap.size w w' := by
  obtain ⟨hl, _, hc⟩ := h
  by_cases h0 : n = 0
  · subst h0
    obtain rfl : zs = [] := List.eq_nil_of_length_eq_zero hl
    exact mk_empty tg a cap w
  · obtain ⟨b, off, rfl, hc'⟩ := hc (by omega)
    exact mk_row tg b off n cap zs w hn hl hc'

/-- ZZSortByRank. -/
theorem zzsort_any (w0 : World) (B : Nat → Prop) (gA gB n cA mB lB cB : Nat) (xs bs : List Cd) (hn : n ≤ 32768) (hr : Rk xs) (ha : Buf w0 gA n xs) (hb : Buf w0 gB mB bs) (hm : (n ≤ cB ∧ mB = n) ∨ (cB < n ∧ mB = cB)) (hne : gA ≠ gB) (hA : Mod B w0 gA) (hB : Mod B w0 gB)
    (hcA : n ≤ cA) (hcA' : cA ≤ 9223372036854775807) (hcB : lB ≤ cB) (hcB' : cB ≤ 9223372036854775807) :
    Calls Try.prog 9 #[.slice (some ⟨gA, 0, none⟩) n cA, .slice (some ⟨gB, 0, none⟩) lB cB] w0 fun e w' => ∃ gX cX gY cY zs, e = .returned (.tuple #[.slice (some ⟨gX, 0, none⟩) n cX, .slice (some ⟨gY, 0, none⟩) n cY]) ∧
      Buf w' gX n (rad xs 8) ∧ Buf w' gY n zs ∧ gX ≠ gY ∧ Mod B w0 gX ∧ Mod B w0 gY ∧ n ≤ cX ∧ cX ≤ 9223372036854775807 ∧ n ≤ cY ∧ cY ≤ 9223372036854775807 ∧ Kept B w0 w' := by
  have H := sort_any Z89 alloc89 tab_zero w0 B gA gB n cA mB lB cB xs bs hn hr ha hb hm hne hA hB hcA hcA' hcB hcB'
  have HH : Hid (Calls Try.prog 35 #[.slice (some ⟨gA, 0, none⟩) n cA, .slice (some ⟨gB, 0, none⟩) lB cB] w0 fun e w' => ∃ gX cX gY cY zs, e = .returned (.tuple #[.slice (some ⟨gX, 0, none⟩) n cX, .slice (some ⟨gY, 0, none⟩) n cY]) ∧
      Buf w' gX n (rad xs 8) ∧ Buf w' gY n zs ∧ gX ≠ gY ∧ Mod B w0 gX ∧ Mod B w0 gY ∧ n ≤ cX ∧ cX ≤ 9223372036854775807 ∧ n ≤ cY ∧ cY ≤ 9223372036854775807 ∧ Kept B w0 w') := H
  clear H hr ha hb hm
  go_enter Try.func9, Try.ntmps9
  go_wp2_with fail
  refine HH.out.mono ?_
  rintro e w' ⟨gX, cX, gY, cY, zs, rfl, h1⟩
  have H1 : Hid (Buf w' gX n (rad xs 8) ∧ Buf w' gY n zs ∧ gX ≠ gY ∧ Mod B w0 gX ∧ Mod B w0 gY ∧ n ≤ cX ∧ cX ≤ 9223372036854775807 ∧ n ≤ cY ∧ cY ≤ 9223372036854775807 ∧ Kept B w0 w') := h1
  clear h1 HH
  go_wp2
  go_ret2
  exact ⟨gX, cX, gY, cY, zs, rfl, H1.out⟩
end Go.Proofs.Qxb6600550a.Rad
