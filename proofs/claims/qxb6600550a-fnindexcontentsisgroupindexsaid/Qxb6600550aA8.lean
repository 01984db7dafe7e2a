import Derived.Test.Qxb6600550aA7
namespace Go.Proofs.Qxb6600550a.Rad
open Go.RowKit

theorem Buf.take {w : World} {g n m : Nat} {cs : List Cd} (h : Buf w g n cs) (hm : m ≤ n) : Buf w g m (cs.take m) := by
  obtain ⟨arr, h1, h2, h3⟩ := h
  refine ⟨arr, h1, by simp; omega, fun j c hj => h3 j c ?_⟩
  rw [List.getElem?_take] at hj
  split at hj
  · exact hj
  · cases hj
theorem Buf.kept {w w' : World} {g n : Nat} {cs : List Cd} (h : Buf w g n cs) (hb : Below w.heap.size w w') : Buf w' g n cs := h.of_heap (hb.block g h.lt)

/-- The room as slices.Grow wants it. -/
theorem room_of {w : World} {g n m : Nat} {cs : List Cd} (h : Buf w g m cs) : ∃ mB bs, Buf w g mB bs ∧ ((n ≤ m ∧ mB = n) ∨ (m < n ∧ mB = m)) := by
  by_cases hm : n ≤ m
  · exact ⟨n, _, h.take hm, .inl ⟨hm, rfl⟩⟩
  · exact ⟨m, cs, h, .inr ⟨by omega, rfl⟩⟩

set_option maxHeartbeats 800000 in
theorem law_out (a0 a1 : Option Addr) (n0 c0 n1 c1 : Nat) (w : World) (h0 : n0 ≤ 9223372036854775807) (h1 : n1 ≤ 9223372036854775807) (h : 32768 < n0 ∨ 32768 < n1 ∨ 65536 < n0 + n1) :
    Calls Try.prog 3 #[.slice a0 n0 c0, .slice a1 n1 c1] w fun e w' => e = .returned (.bool true) ∧ Below w.heap.size w w' := by
  by_cases hb : 1048576 < n0 + n1
  · go_enter Try.func3, Try.ntmps3
    go_wp2_with fail
    refine (zzb_no a0 a1 n0 c0 n1 c1 w h0 h1 hb).mono ?_
    rintro e w' ⟨rfl, rfl⟩
    go_wp2
    go_ret
    exact ⟨rfl, Below.refl _ _⟩
  · have hb' : n0 + n1 ≤ 1048576 := by omega
    by_cases h2 : 32768 < n0
    · go_enter Try.func3, Try.ntmps3
      go_wp2_with fail
      refine (zzb_yes a0 a1 n0 c0 n1 c1 w hb').mono ?_
      rintro e w' ⟨rfl, rfl⟩
      go_wp2
      go_ret
      exact ⟨rfl, Below.refl _ _⟩
    · by_cases h3 : 32768 < n1
      · go_enter Try.func3, Try.ntmps3
        go_wp2_with fail
        refine (zzb_yes a0 a1 n0 c0 n1 c1 w hb').mono ?_
        rintro e w' ⟨rfl, rfl⟩
        go_wp2
        go_ret
        exact ⟨rfl, Below.refl _ _⟩
      · omega

/-- Behind the two lists that are made. -/
structure Two (w w2 : World) (a0 : Option Addr) (n0 n1 G1 G2 : Nat) (zs : List (Nat × Int)) (xs ys : List Cd) : Prop where
  c : CRow w2 a0 n0 zs
  x : Buf w2 G1 n0 xs
  y : Buf w2 G2 n1 ys
  ne : G1 ≠ G2
  h1 : w.heap.size ≤ G1
  h2 : w.heap.size ≤ G2
  bel : Below w.heap.size w w2

set_option maxHeartbeats 800000 in
theorem law_in (a0 a1 : Option Addr) (n0 c0 n1 c1 : Nat) (zs us : List (Nat × Int)) (w : World) (h0 : n0 ≤ 32768) (h1 : n1 ≤ 32768) (h : n0 + n1 ≤ 65536) (r0 : CRow w a0 n0 zs) (r1 : CRow w a1 n1 us) :
    Calls Try.prog 3 #[.slice a0 n0 c0, .slice a1 n1 c1] w fun e w' => e = .returned (.bool true) ∧ Below w.heap.size w w' := by
  have R0 : Hid (CRow w a0 n0 zs) := r0
  have R1 : Hid (CRow w a1 n1 us) := r1
  clear r0 r1
  go_enter Try.func3, Try.ntmps3
  go_wp2_with fail
  refine (zzb_yes a0 a1 n0 c0 n1 c1 w (by omega)).mono ?_
  rintro e w' ⟨rfl, hw'⟩
  subst hw'
  go_wp2_with fail
  refine (mk_any true a0 n0 c0 zs _ (by omega) R0.out).mono ?_
  rintro e w1 ⟨rfl, b1, l1⟩
  have B1 : Hid (Buf w1 w'.heap.size n0 (tl true zs 0) ∧ Below w'.heap.size w' w1) := ⟨b1, l1⟩
  clear b1 l1
  go_wp2_with fail
  refine (mk_any false a1 n1 c1 us _ (by omega) (R1.out.kept B1.out.2)).mono ?_
  rintro e w2 ⟨rfl, b2, l2⟩
  have T2 : Hid (Two w' w2 a0 n0 n1 w'.heap.size w1.heap.size zs (tl true zs 0) (tl false us 0)) :=
    ⟨(R0.out.kept B1.out.2).kept l2, B1.out.1.kept l2, b2, by have := B1.out.1.lt; omega, Nat.le_refl _, B1.out.2.size, B1.out.2.trans (l2.mono B1.out.2.size)⟩
  clear b2 l2
  go_wp2_with fail
  obtain ⟨mB, bs, hB1, hB2⟩ := room_of (n := n0) T2.out.y
  refine (zzsort_any w2 (fun k => k < w'.heap.size) w'.heap.size w1.heap.size n0 n0 mB n1 n1 (tl true zs 0) bs h0 (tl_rk zs R0.out.2.1 true 0) T2.out.x hB1 hB2 T2.out.ne (fun _ hk => by have := T2.out.h1; omega) (fun _ hk => by have := T2.out.h2; omega) (Nat.le_refl _) (by omega) (Nat.le_refl _) (by omega)).mono ?_
  rintro e w3 ⟨gX, cX, gY, cY, vs, rfl, s1, s2, s3, s4, s5, s6, s7, s8, s9, s10⟩
  have L3 : Below w'.heap.size w' w3 := T2.out.bel.trans ⟨s10.os, s10.tape, s10.output, s10.size, fun k hk => s10.block k (Nat.lt_of_lt_of_le hk T2.out.bel.size) hk⟩
  have S1 : Hid (Buf w3 gX n0 (rad (tl true zs 0) 8) ∧ Below w'.heap.size w' w3 ∧ CRow w3 a0 n0 zs) := ⟨s1, L3, R0.out.kept L3⟩
  clear s1 s2 s3 s4 s5 s8 s9 s10 hB1 hB2 L3 T2 B1
  go_wp2_with fail
  refine (stable_any a0 n0 c0 gX cX zs _ w3 h0 S1.out.2.2 S1.out.1 (good_sorted zs R0.out.2.1)).mono ?_
  rintro e w4 ⟨rfl, l4⟩
  have L4 : Hid (Below w'.heap.size w' w4) := S1.out.2.1.trans (l4.mono S1.out.2.1.size)
  clear l4
  go_wp2
  go_ret
  exact ⟨rfl, L4⟩
end Go.Proofs.Qxb6600550a.Rad
