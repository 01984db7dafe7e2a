import Derived.Test.Qxb6600550aC0
import Derived.Test.Qxb6600550aB0
import Derived.Laws.Bits64b
import Derived.Laws.CopyRow
import Derived.Laws.CopyOwn
namespace Go.Proofs.Qxb6600550a.Rad
open Go.RowKit

theorem and_low (N : Nat) (hN : N ≤ 1048576) : bits BinOp.and IntKind.u64 (N : Int) 4294967295 = (N : Int) := by
  have h := bits_and_u64_nat N 4294967295 (by omega) (by omega)
  rw [show ((4294967295 : Nat) : Int) = 4294967295 from rfl] at h
  rw [h, show (4294967295 : Nat) = 2 ^ 32 - 1 from rfl, Nat.and_two_pow_sub_one_eq_mod, Nat.mod_eq_of_lt (by omega)]

set_option maxHeartbeats 400000 in
theorem mul64_one (N : Nat) (hN : N ≤ 1048576) (w : World) : Calls Try.prog 47 #[.int .u64 1, .int .u64 (N : Nat)] w fun e w' => e = .returned (.tuple #[.int .u64 0, .int .u64 (N : Nat)]) ∧ w' = w := by
  have b0 : bits BinOp.and IntKind.u64 0 4294967295 = 0 := and_low 0 (by omega)
  have b1 : bits BinOp.and IntKind.u64 1 4294967295 = 1 := and_low 1 (by omega)
  have b2 := and_low N hN
  have b3 : (N : Int) / 4294967296 = 0 := by omega
  go_enter Try.func47, Try.ntmps47
  go_wp2
  go_ret2
  exact ⟨rfl, rfl⟩
theorem mul_one (N : Nat) (hN : N ≤ 1048576) (w : World) : Calls Try.prog 45 #[.int .u64 1, .int .u64 (N : Nat)] w fun e w' => e = .returned (.tuple #[.int .u64 0, .int .u64 (N : Nat)]) ∧ w' = w := by
  go_enter Try.func45, Try.ntmps45
  go_wp2_with fail
  refine (mul64_one N hN w).mono ?_
  rintro e w' ⟨rfl, hw⟩
  subst hw
  go_wp2
  go_ret2
  exact ⟨rfl, rfl⟩

abbrev m1 : Value := .int .i32 (-1)
/-- The row while it is filled. -/
structure Rep (w wr : World) (B N k : Nat) : Prop where
  row : ∃ cur : Array Value, wr.heap[B]? = some (.cells cur 21 (0, 0)) ∧ cur.size = N ∧ ∀ i, i < k → cur[i]? = some m1
  bel : Below w.heap.size w wr
  hB : w.heap.size ≤ B
theorem Rep.drewN {w wr : World} {B N k : Nat} (h : Rep w wr B N k) (j : Nat) : Rep w (wr.drewN j) B N k :=
  ⟨h.row, ⟨h.bel.os, h.bel.tape, h.bel.output, h.bel.size, h.bel.block⟩, h.hB⟩
theorem size21 : (Try.prog.info? 21).map (·.size) = some 1 := by kernel_rfl
/-- One copy: m more. -/
theorem Rep.copy {w wr : World} {B N k : Nat} (h : Rep w wr B N k) (a : Addr) (sLen sCap m : Nat) (hm : m = Nat.min sLen (N - k)) (hk : k ≤ N) (hsrc : ∀ j, j < m → wr.cell? (a.add j) = some m1) :
    ∃ w2, (∀ j, (Builtin.copy_ #[30, 30] 3 #[.slice (some ⟨B, k, none⟩) (N - k) (N - k), .slice (some a) sLen sCap]).run Try.prog (wr.drewN j) = .ok (.int .i64 (m : Nat)) (w2.drewN j)) ∧ Rep w w2 B N (k + m) := by
  obtain ⟨cur, h1, h2, h3⟩ := h.row
  have hmN : k + m ≤ N := by have hmm : m ≤ N - k := hm ▸ Nat.min_le_right _ _; omega
  have hcs : ∀ j v, (List.replicate m m1)[j]? = some v → j < m ∧ v = m1 := fun j v hv => by
    rw [List.getElem?_replicate] at hv
    split at hv
    · exact ⟨by assumption, (Option.some.inj hv).symm⟩
    · cases hv
  refine ⟨wr.setRow B (cur.toList.take k ++ List.replicate m m1 ++ cur.toList.drop (k + m)).toArray, fun j => ?_, ⟨⟨(cur.toList.take k ++ List.replicate m m1 ++ cur.toList.drop (k + m)).toArray, ?_, ?_, ?_⟩, below_setRow h.bel h.hB _, h.hB⟩⟩
  · have := run_copy_row (P := Try.prog) (wr.drewN j) 30 30 3 21 B k (N - k) (N - k) a sLen sCap cur 21 (List.replicate m m1) Try.underlying30 size21 h1 (by simp [hm]) (fun i v hv => by obtain ⟨a1, rfl⟩ := hcs i v hv; exact hsrc i a1) (by simp; omega) (by simp [Value.oneCell'])
    rw [this, List.length_replicate]; rfl
  · exact setRow_heap wr B cur _ 21 (0, 0) h1
  · simp; omega
  · intro i hi
    rw [List.getElem?_toArray]
    by_cases h4 : i < k
    · rw [List.getElem?_append_left (by simp; omega), List.getElem?_append_left (by simp; omega), List.getElem?_take, if_pos h4, Array.getElem?_toList]; exact h3 i h4
    · rw [List.getElem?_append_left (by simp; omega), List.getElem?_append_right (by simp; omega), List.getElem?_replicate, if_pos (by simp; omega)]

theorem make21s (n : Nat) (hn : n ≤ 1048576) : ∃ M : Array Value, (∀ w : World, (Instr.makeSlice 30 (.int .i64 (n : Int)) (.int .i64 (n : Int))).run Try.prog w = .ok (.slice (some ⟨w.heap.size, 0, none⟩) n n) (w.alloc (.cells M 21))) ∧ M.size = n := by
  have h4 : (Try.prog.info? 21).map (fun i => (i.zero, i.size, i.bytes)) = some (some (.int .i32 0), 1, 4) := by kernel_rfl
  obtain ⟨i0, hi, hz0, hz1, hz2⟩ := info_parts h4
  refine ⟨madeCells (Value.int .i32 0).cells (n * 1), fun w => ?_, ?_⟩
  · have h := run_make (P := Try.prog) w 30 21 i0 (.int .i32 0) Try.underlying30 hi hz0 .i64 .i64 n n (by omega) (by omega) (by rw [hz2]; omega) (by omega)
    simpa [hz1] using h
  · have e : (madeCells (Value.int .i32 0).cells (n * 1)).toList = List.replicate n (.int .i32 0) := by rw [Nat.mul_one]; exact toList_madeCells_one _ _
    rw [← Array.length_toList, e, List.length_replicate]

set_option maxRecDepth 100000 in
set_option maxHeartbeats 800000 in
/-- slices.Repeat of one -1. -/
theorem repeat_any (g0 N : Nat) (w : World) (hN : N ≤ 1048576) (h0 : 0 < N) (hc : w.cell? ⟨g0, 0, none⟩ = some m1) :
    Calls Try.prog 43 #[.slice (some ⟨g0, 0, none⟩) 1 1, .int .i64 (N : Nat)] w fun e w' => ∃ B, e = .returned (.slice (some ⟨B, 0, none⟩) N N) ∧ VRow w' B N 21 (fun _ => m1) ∧ w.heap.size ≤ B ∧ Below w.heap.size w w' := by
  obtain ⟨M, hmk, hMs⟩ := make21s N hN
  have hR0 : Rep w (w.alloc (.cells M 21)) w.heap.size N 0 := ⟨⟨M, heap_alloc_new w _, hMs, fun i hi => by omega⟩, (Below.refl _ _).alloc (Nat.le_refl _) _, Nat.le_refl _⟩
  have hcl : g0 < w.heap.size := World.block_lt_of_cell? w _ hc
  obtain ⟨w2, hcp, hR1⟩ := hR0.copy ⟨g0, 0, none⟩ 1 1 1 (by show 1 = Nat.min 1 (N - 0); rw [show Nat.min 1 (N - 0) = min 1 (N - 0) from rfl]; omega) (by omega) (fun j hj => by
    obtain rfl : j = 0 := by omega
    exact (World.cell?_of_block (Below.heap_alloc _ _ _ hcl)).trans hc)
  have hcp0 : (Builtin.copy_ #[30, 30] 3 #[.slice (some ⟨w.heap.size, 0, none⟩) N N, .slice (some ⟨g0, 0, none⟩) 1 1]).run Try.prog (w.alloc (.cells M 21)) = .ok (.int .i64 1) w2 := hcp 0
  clear hcp
  have HR : Hid (Rep w w2 w.heap.size N 1) := hR1
  clear hR0 hR1 hMs
  go_enter Try.func43, Try.ntmps43
  go_wp2_with fail
  refine (mul_one N hN w).mono ?_
  rintro e w' ⟨rfl, hw⟩
  subst hw
  go_wp2
  go_loopw [8] (fun i wr => ∃ k : Nat, 1 ≤ k ∧ k ≤ N ∧ i = .int .i64 k ∧ Hid (Rep w' wr w'.heap.size N k)) (fun i _ => N - (intOf i).toNat)
  case atStart => exact ⟨1, by omega, by omega, rfl, HR⟩
  case round =>
    obtain ⟨k, hk1, hk, rfl, HK⟩ := hrel
    clear HR hcp0 hmk
    by_cases hlt : k < N
    · obtain ⟨m, hm⟩ : ∃ m, m = Nat.min k (N - k) := ⟨_, rfl⟩
      have hm1 : 1 ≤ m ∧ m ≤ N - k := by rw [hm, show Nat.min k (N - k) = min k (N - k) from rfl]; omega
      have hmk : m ≤ k := hm ▸ Nat.min_le_left _ _
      obtain ⟨w3, hcp, hR⟩ := HK.out.copy ⟨w'.heap.size, 0, none⟩ k N m hm hk (fun j hj => by
        obtain ⟨cur, r1, r2, r3⟩ := HK.out.row
        rw [show (⟨w'.heap.size, 0, none⟩ : Addr).add j = ⟨w'.heap.size, j, none⟩ from by simp [Addr.add]; omega, cell_of_row wr w'.heap.size j cur 21 (0, 0) r1]
        exact r3 j (by omega))
      have HR3 : Hid (∀ j, Rep w' (w3.drewN j) w'.heap.size N (k + m)) := fun j => hR.drewN j
      have hcp1 : (Builtin.copy_ #[30, 30] 3 #[.slice (some ⟨w'.heap.size, k, none⟩) (N - k) (N - k), .slice (some ⟨w'.heap.size, 0, none⟩) k N]).run Try.prog wr.drew = .ok (.int .i64 (m : Nat)) w3.drew := hcp 1
      clear hm hR HK hcp
      go_wp2
      go_region
      all_goals
        go_wp2
        go_roundw
        case rel => exact ⟨k + m, by omega, by omega, by go_num, HR3.out 1⟩
        case measure => simp [intOf]; omega
    · obtain rfl : k = N := by omega
      go_wp2
      go_ret
      obtain ⟨cur, r1, r2, r3⟩ := HK.out.row
      exact ⟨_, rfl, ⟨cur, r1, r3⟩, Nat.le_refl _, HK.out.bel⟩
end Go.Proofs.Qxb6600550a.Rad
