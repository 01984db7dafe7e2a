import Derived.Test.Qxb6600495aN5
namespace Go.Proofs.Qxb6600495a.Nodes
open Go.RowKit

set_option maxHeartbeats 400000 in
theorem chunks_out (a0 a1 : Int) (h : a0 < 0 ∨ 4096 < a0 ∨ a1 < 0 ∨ 65536 < a1) (w : World) :
    Calls Try.prog 7 #[.int .i64 a0, .int .i64 a1] w fun e w' => e = .returned (.bool true) ∧ Below w.heap.size w w' := by
  by_cases h1 : a0 < 0
  · go_enter Try.func7, Try.ntmps7
    go_wp2
    go_ret
    exact ⟨rfl, Below.refl _ _⟩
  by_cases h2 : 4096 < a0
  · go_enter Try.func7, Try.ntmps7
    go_wp2
    go_ret
    exact ⟨rfl, Below.refl _ _⟩
  by_cases h3 : a1 < 0
  · go_enter Try.func7, Try.ntmps7
    go_wp2
    go_ret
    exact ⟨rfl, Below.refl _ _⟩
  have h4 : 65536 < a1 := by omega
  go_enter Try.func7, Try.ntmps7
  go_wp2
  go_ret
  exact ⟨rfl, Below.refl _ _⟩

theorem inv_mid {f n j : Nat} {cs : List Chunk} (h : InvL f n (cs.map Chunk.L)) (hj : j + 1 < cs.length) : ∃ c, cs[j]? = some c ∧ c.L = 4096 := by
  have hlt : j < cs.length := by omega
  have := h.2.1 j (by simpa using hj)
  refine ⟨cs[j], List.getElem?_eq_getElem hlt, ?_⟩
  simpa [List.getElem?_eq_getElem hlt] using this
theorem inv_last {f n : Nat} {cs : List Chunk} (h : InvL f n (cs.map Chunk.L)) (hp : 0 < cs.length) : ∃ c, cs[cs.length - 1]? = some c ∧ ((f = 0 ∨ 1 < cs.length) → c.L = 4096) ∧
    ((0 < f ∧ cs.length = 1) → n ≤ c.L ∧ f ≤ c.L ∧ c.L ≤ 4096 ∧ (c.L = f ∨ c.L < 2 * n)) := by
  have hlt : cs.length - 1 < cs.length := by omega
  refine ⟨cs[cs.length - 1], List.getElem?_eq_getElem hlt, ?_⟩
  have := h.2.2 (cs[cs.length - 1]).L (by simp [List.getElem?_eq_getElem hlt])
  simpa using this

def LoopInv (w wr : World) (p f k : Nat) (cs : List Chunk) : Prop := Store w.heap.size wr p k cs ∧ InvL f k (cs.map Chunk.L) ∧ Below w.heap.size w wr

set_option maxRecDepth 100000 in
set_option maxHeartbeats 1600000 in
theorem chunks_in (f N : Nat) (hf : f ≤ 4096) (hN : N ≤ 65536) (w : World) :
    Calls Try.prog 7 #[.int .i64 f, .int .i64 N] w fun e w' => e = .returned (.bool true) ∧ Below w.heap.size w w' := by
  go_enter Try.func7, Try.ntmps7
  go_wp2_with fail
  refine (start_any w f hf).mono ?_
  rintro e w1 ⟨p, rfl, hst, hbl⟩
  have H : LoopInv w w1 p f 0 (cks0 f w.heap.size) := ⟨hst, invL_start f hf _ (by unfold cks0; split <;> simp), hbl⟩
  clear hst hbl
  go_wp2
  go_loopw [6] (fun i wr => ∃ (k : Nat) (cs : List Chunk), k ≤ N ∧ i = .int .i64 k ∧ LoopInv w wr p f k cs) (fun i _ => N - (intOf i).toNat)
  case atStart => exact ⟨0, _, Nat.zero_le _, rfl, H⟩
  case round =>
    obtain ⟨k, cs, hk, rfl, hI⟩ := hrel
    clear H
    by_cases hlt : k < N
    · go_wp2_with fail
      refine (zzadd_any wr w.heap.size p k cs (by omega) hI.1 (inv_ok hI.2.1)).mono ?_
      rintro e w2 ⟨cs', c, rfl, h1, h2, h3, h4, h5⟩
      have H2 : LoopInv w w2 p f (k + 1) cs' := ⟨h1, invL_step f k _ _ hI.2.1 (step_lens h5), hI.2.2.trans h2⟩
      clear h1 h2 h3 h4 h5 hI
      go_wp2
      go_roundw
      case rel => exact ⟨k + 1, cs', by omega, by go_num, H2⟩
      case measure => simp [intOf]; omega
    · obtain rfl : k = N := by omega
      have hl := hI.2.1.1
      simp only [List.length_map] at hl
      obtain ⟨m, hm⟩ : ∃ m, m = cs.length := ⟨_, rfl⟩
      rw [← hm] at hl
      have HM : Hid (m = cs.length) := hm
      clear hm
      go_wp2_with fail
      refine (count_any wr w.heap.size p k cs hI.1).mono ?_
      rintro e w2 ⟨rfl, rfl⟩
      rw [← HM.out]
      rcases hl with ⟨rfl, hl⟩ | ⟨hf0, rfl, rfl⟩ | ⟨hf0, hk0, hl⟩
      · have t : ((m : Int) != ((k : Int) + 4096 - 1) / 4096) = false := by simp; omega
        have HL : Hid (m = (k + 4095) / 4096) := hl
        have hm16 : m ≤ 16 := by omega
        clear hl
        go_wp2_with fail
        go_loop [9] (fun c => ∃ j : Nat, j ≤ m ∧ c = .int .i64 j) (fun c => m - (intOf c).toNat)
        case atStart => exact ⟨0, Nat.zero_le _, rfl⟩
        case round =>
          obtain ⟨j, hj, rfl⟩ := hrel
          by_cases hj1 : j + 1 < m
          · obtain ⟨c, hc, hcL⟩ := inv_mid hI.2.1 (by rw [← HM.out]; exact hj1)
            have HC : Hid (c.L = 4096) := hcL
            clear hcL
            go_wp2_with fail
            refine (len_any w2 w.heap.size p k j cs c hI.1 hc).mono ?_
            rintro e w3 ⟨rfl, rfl⟩
            rw [HC.out]
            go_wp2
            go_round
            case rel => exact ⟨j + 1, by omega, by go_num⟩
            case measure => simp [intOf]; omega
          · by_cases hm0 : m = 0
            · subst hm0
              go_wp2
              go_ret
              exact ⟨rfl, hI.2.2⟩
            · obtain ⟨c, hc, hcL, _⟩ := inv_last hI.2.1 (by rw [← HM.out]; omega)
              have HC : Hid (c.L = 4096) := hcL (.inl rfl)
              rw [← HM.out] at hc
              clear hcL
              go_wp2_with fail
              rw [show ((m : Int) - 1) = ((m - 1 : Nat) : Int) by omega]
              refine (len_any w2 w.heap.size p k (m - 1) cs c hI.1 hc).mono ?_
              rintro e w3 ⟨rfl, rfl⟩
              rw [HC.out]
              go_wp2
              go_ret
              exact ⟨rfl, hI.2.2⟩
      · go_wp2_with fail
        refine wp_loop_rounds 1 ?_
        rw [rounds_succ]
        obtain ⟨c, hc, _, hcL⟩ := inv_last hI.2.1 (by rw [← HM.out]; omega)
        have HC : Hid (c.L = f) := by have := hcL ⟨hf0, HM.out.symm⟩; show c.L = f; omega
        rw [← HM.out] at hc
        clear hcL
        go_wp2_with fail
        refine (len_any w2 w.heap.size p 0 0 cs c hI.1 hc).mono ?_
        rintro e w3 ⟨rfl, rfl⟩
        rw [HC.out]
        go_wp2
        go_ret
        exact ⟨rfl, hI.2.2⟩
      · have t : ((m : Int) != ((k : Int) + 4096 - 1) / 4096) = false := by simp; omega
        have t2 : (((k : Int) + 4096 - 1) / 4096 == 0) = false := by simp; omega
        have HL : Hid (m = (k + 4095) / 4096) := hl
        have hm16 : m ≤ 16 := by omega
        have hm1 : 1 ≤ m := by omega
        clear hl
        go_wp2_with fail
        go_loop [9] (fun c => ∃ j : Nat, j ≤ m ∧ c = .int .i64 j) (fun c => m - (intOf c).toNat)
        case atStart => exact ⟨0, Nat.zero_le _, rfl⟩
        case round =>
          obtain ⟨j, hj, rfl⟩ := hrel
          by_cases hj1 : j + 1 < m
          · obtain ⟨c, hc, hcL⟩ := inv_mid hI.2.1 (by rw [← HM.out]; exact hj1)
            have HC : Hid (c.L = 4096) := hcL
            clear hcL
            go_wp2_with fail
            refine (len_any w2 w.heap.size p k j cs c hI.1 hc).mono ?_
            rintro e w3 ⟨rfl, rfl⟩
            rw [HC.out]
            go_wp2
            go_round
            case rel => exact ⟨j + 1, by omega, by go_num⟩
            case measure => simp [intOf]; omega
          · obtain ⟨c, hc, hcL, hcL'⟩ := inv_last hI.2.1 (by rw [← HM.out]; omega)
            rw [← HM.out] at hc hcL hcL'
            by_cases hm2 : 1 < m
            · have HC : Hid (c.L = 4096) := hcL (.inr hm2)
              clear hcL hcL'
              go_wp2_with fail
              rw [show ((m : Int) - 1) = ((m - 1 : Nat) : Int) by omega]
              refine (len_any w2 w.heap.size p k (m - 1) cs c hI.1 hc).mono ?_
              rintro e w3 ⟨rfl, rfl⟩
              rw [HC.out]
              go_wp2
              go_ret
              exact ⟨rfl, hI.2.2⟩
            · obtain rfl : m = 1 := by omega
              obtain ⟨q1, q2, q3, q4⟩ := hcL' ⟨hf0, rfl⟩
              clear hcL hcL'
              go_wp2_with fail
              refine (len_any w2 w.heap.size p k 0 cs c hI.1 hc).mono ?_
              rintro e w3 ⟨rfl, rfl⟩
              by_cases q5 : c.L = f
              · have q6 : ((c.L : Int) == (f : Int)) = true := by simp [q5]
                clear q5 q4
                go_wp2
                go_ret
                exact ⟨rfl, hI.2.2⟩
              · have q6 : ((c.L : Int) == (f : Int)) = false := by simp; omega
                have q7 : decide ((c.L : Int) < 2 * (k : Int)) = true := decide_eq_true (by omega)
                clear q5 q4
                go_wp2
                go_ret
                exact ⟨rfl, hI.2.2⟩
end Go.Proofs.Qxb6600495a.Nodes
