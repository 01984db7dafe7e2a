import Derived.Test.Qxb6600495aS3
namespace Go.Proofs.Qxb6600495a.Fits
open Go.RowKit

theorem law_eq (W E : List Int) (hW : W.length ≤ 10000) :
    (neg E = true → sf W E = (evb E || decide (dig W ≤ 308 + evv E))) ∧ (neg E = false → sf W E = (!evb E && decide (dig W + evv E ≤ 308))) := by
  have hc := cnt_le 95 W
  have hD : 0 ≤ dig W ∧ dig W ≤ 10000 := by unfold dig; split <;> omega
  obtain ⟨h1, h2⟩ := law E (dig W) hD.1 hD.2
  constructor
  · intro hn
    rw [sf, if_pos hn, h2]
    unfold evb evv
    cases ev E 0 0 <;> simp
  · intro hn
    rw [sf, if_neg (by simp [hn]), h1]
    unfold evb evv
    cases ev E 0 0 <;> simp

theorem evv_le (E : List Int) : 0 ≤ evv E ∧ evv E ≤ 999999 := by
  have h := ends E 0 0 0 (.inl ⟨rfl, rfl, rfl⟩)
  unfold evv
  cases hv : ev E 0 0 with
  | none => simp
  | some x => rw [hv] at h; simp only at h; simp; omega

set_option maxHeartbeats 800000 in
theorem out_walk (a0 a1 : Option Addr) (n0 c0 n1 c1 : Nat) (w : World) (h0 : n0 ≤ 9223372036854775807) (h1 : n1 ≤ 9223372036854775807) (h : 10000 < n0 ∨ 1048576 < n0 + n1 ∨ n0 = 0) :
    Calls Try.prog 3 #[.slice a0 n0 c0, .slice a1 n1 c1] w fun e w' => e = .returned (.bool true) ∧ Below w.heap.size w w' := by
  by_cases hb : 1048576 < n0 + n1
  · go_enter Try.func3, Try.ntmps3
    go_wp2_with fail
    refine (zzb_no a0 a1 n0 c0 n1 c1 w h0 h1 hb).mono ?_
    rintro e w' ⟨rfl, rfl⟩
    go_wp2
    go_ret
    exact ⟨rfl, Below.refl _ _⟩
  · have hb' : n0 + n1 ≤ 1048576 := by omega
    by_cases h2 : 10000 < n0
    · go_enter Try.func3, Try.ntmps3
      go_wp2_with fail
      refine (zzb_yes a0 a1 n0 c0 n1 c1 w hb').mono ?_
      rintro e w' ⟨rfl, rfl⟩
      go_wp2
      go_ret
      exact ⟨rfl, Below.refl _ _⟩
    · obtain rfl : n0 = 0 := by omega
      go_enter Try.func3, Try.ntmps3
      go_wp2_with fail
      refine (zzb_yes a0 a1 0 c0 n1 c1 w hb').mono ?_
      rintro e w' ⟨rfl, rfl⟩
      go_wp2
      go_ret
      exact ⟨rfl, Below.refl _ _⟩

set_option maxHeartbeats 1600000 in
theorem in_walk (a0 a1 : Option Addr) (n c0 m c1 : Nat) (zs ys : List Int) (w : World) (hn : n ≤ 10000) (h0 : 0 < n) (hm : n + m ≤ 1048576) (hW : Row w a0 n zs) (hE : Row w a1 m ys)
    (hnil0 : a0 = none → n = 0 ∧ c0 = 0) (hnil1 : a1 = none → m = 0 ∧ c1 = 0) :
    Calls Try.prog 3 #[.slice a0 n c0, .slice a1 m c1] w fun e w' => e = .returned (.bool true) ∧ Below w.heap.size w w' := by
  go_enter Try.func3, Try.ntmps3
  go_wp2_with fail
  refine (zzb_yes a0 a1 n c0 m c1 w hm).mono ?_
  rintro e w' ⟨rfl, rfl⟩
  go_wp2_with fail
  refine (clone_any a0 n c0 zs w' (by omega) hnil0 hW).mono ?_
  rintro e w1 ⟨a0', c0', rfl, hW1, hb1⟩
  have hE1 := hE.kept hb1
  clear hnil0 hW
  go_wp2_with fail
  refine (clone_any a1 m c1 ys w1 (by omega) hnil1 hE1).mono ?_
  rintro e w2 ⟨a1', c1', rfl, hE2, hb2⟩
  have hW2 := hW1.kept hb2
  have hB : Below w'.heap.size w' w2 := hb1.trans (hb2.mono hb1.size)
  clear hnil1 hE hE1 hW1 hb1 hb2
  go_wp2_with fail
  refine (zzsf_any a0' n c0' zs a1' m c1' ys w2 h0 hn (by omega) hW2 hE2).mono ?_
  rintro e w3 ⟨rfl, rfl⟩
  obtain ⟨b, off, rfl, hc⟩ := hW2.2.2 h0
  have hc0 : w3.cell? ⟨b, off, none⟩ = some (.int .u8 (zs.getD 0 0)) := by simpa using hc 0 h0
  have hl := hW2.1
  have hL := law_eq zs ys (by omega)
  have hev := evv_le ys
  have hcn := cnt_le 95 zs
  have HD0 : Hid ((zs.getD 0 0 != 48) = false → dig zs = 0) := by
    intro h; rw [dig, if_pos (by simpa using h)]
  have HD1 : Hid ((zs.getD 0 0 != 48) = true → dig zs = (n : Int) - (cnt 95 zs : Nat)) := by
    intro h; rw [dig, if_neg (by simpa using h), hl]
  obtain ⟨z0, hz0⟩ : ∃ z, z = zs.getD 0 0 := ⟨_, rfl⟩
  rw [← hz0] at hc0 HD0 HD1
  obtain ⟨got, hgot⟩ : ∃ g, g = sf zs ys := ⟨_, rfl⟩
  rw [← hgot] at hL ⊢
  obtain ⟨va, hva⟩ : ∃ g, g = evv ys := ⟨_, rfl⟩
  obtain ⟨vb, hvb⟩ : ∃ g, g = evb ys := ⟨_, rfl⟩
  rw [← hva] at hev
  rw [← hva, ← hvb] at hL
  obtain ⟨q, hq⟩ : ∃ q, q = cnt 95 zs := ⟨_, rfl⟩
  rw [← hq] at HD1 hcn
  rw [hl] at hcn
  have HH : Hid (q = cnt 95 zs ∧ va = evv ys ∧ vb = evb ys ∧ zs.length = n) := ⟨hq, hva, hvb, hl⟩
  have HL : Hid ((neg ys = true → got = (vb || decide (dig zs ≤ 308 + va))) ∧ (neg ys = false → got = (!vb && decide (dig zs + va ≤ 308)))) := hL
  have HW : Hid (Row w3 (some ⟨b, off, none⟩) n zs ∧ Row w3 a1' m ys) := ⟨hW2, hE2⟩
  have HB : Hid (Below w'.heap.size w' w3) := hB
  clear hL hq hva hvb hl hgot hz0 hc hW2 hE2 hB
  cases hz : (z0 != 48) with
  | false =>
    go_wp2_with fail
    refine (exp_any a1' m c1' ys w3 (by omega) HW.out.2).mono ?_
    rintro e w4 ⟨rfl, rfl⟩
    rw [← HH.out.2.1, ← HH.out.2.2.1]
    by_cases hm0 : m = 0
    · subst hm0
      have hng : neg ys = false := by have := HW.out.2.1; simp [neg, this]
      have HG := HL.out.2 hng
      rw [HD0.out hz] at HG
      have HG' : Hid (got = (!vb && decide ((0 : Int) + va ≤ 308))) := HG
      clear HG
      have hd : decide ((0 : Int) < ((0 : Nat) : Int)) = false := by decide
      cases vb with
      | false =>
        go_wp2
        go_ret
        exact ⟨ret_bool (by rw [HG'.out]; simp), HB⟩
      | true =>
        go_wp2
        go_ret
        exact ⟨ret_bool (by rw [HG'.out]; simp), HB⟩
    · obtain ⟨b2, o2, rfl, yc⟩ := HW.out.2.2.2 (by omega)
      have yc0 : w4.cell? ⟨b2, o2, none⟩ = some (.int .u8 (ys.getD 0 0)) := by simpa using yc 0 (by omega)
      have hng : neg ys = (ys.getD 0 0 == 45) := by have := HW.out.2.1; simp [neg, this]; omega
      obtain ⟨y0, hy0⟩ : ∃ y, y = ys.getD 0 0 := ⟨_, rfl⟩
      rw [← hy0] at yc0 hng
      have hm1 : (0 : Int) < (m : Int) := by omega
      cases hy : (y0 == 45) with
      | false =>
        rw [hy] at hng
        have HG := HL.out.2 hng
        rw [HD0.out hz] at HG
        have HG' : Hid (got = (!vb && decide ((0 : Int) + va ≤ 308))) := HG
        clear HG hng hy0 yc
        cases vb with
        | false =>
          go_wp2
          go_ret
          exact ⟨ret_bool (by rw [HG'.out]; simp), HB⟩
        | true =>
          go_wp2
          go_ret
          exact ⟨ret_bool (by rw [HG'.out]; simp), HB⟩
      | true =>
        rw [hy] at hng
        have HG := HL.out.1 hng
        rw [HD0.out hz] at HG
        have HG' : Hid (got = (vb || decide ((0 : Int) ≤ 308 + va))) := HG
        clear HG hng hy0 yc
        cases vb with
        | false =>
          go_wp2
          go_ret
          exact ⟨ret_bool (by rw [HG'.out]; simp), HB⟩
        | true =>
          go_wp2
          go_ret
          exact ⟨ret_bool (by rw [HG'.out]; simp), HB⟩
  | true =>
    go_wp2_with fail
    refine (count_any (some ⟨b, off, none⟩) n c0' zs 95 w3 (by omega) h0 HW.out.1).mono ?_
    rintro e w5 ⟨rfl, rfl⟩
    rw [← HH.out.1]
    go_wp2_with fail
    refine (exp_any a1' m c1' ys w5 (by omega) HW.out.2).mono ?_
    rintro e w4 ⟨rfl, rfl⟩
    rw [← HH.out.2.1, ← HH.out.2.2.1]
    by_cases hm0 : m = 0
    · subst hm0
      have hng : neg ys = false := by have := HW.out.2.1; simp [neg, this]
      have HG := HL.out.2 hng
      rw [HD1.out hz] at HG
      have HG' : Hid (got = (!vb && decide (((n : Int) - (q : Nat)) + va ≤ 308))) := HG
      clear HG
      have hd : decide ((0 : Int) < ((0 : Nat) : Int)) = false := by decide
      cases vb with
      | false =>
        go_wp2
        go_ret
        exact ⟨ret_bool (by rw [HG'.out]; simp), HB⟩
      | true =>
        go_wp2
        go_ret
        exact ⟨ret_bool (by rw [HG'.out]; simp), HB⟩
    · obtain ⟨b2, o2, rfl, yc⟩ := HW.out.2.2.2 (by omega)
      have yc0 : w4.cell? ⟨b2, o2, none⟩ = some (.int .u8 (ys.getD 0 0)) := by simpa using yc 0 (by omega)
      have hng : neg ys = (ys.getD 0 0 == 45) := by have := HW.out.2.1; simp [neg, this]; omega
      obtain ⟨y0, hy0⟩ : ∃ y, y = ys.getD 0 0 := ⟨_, rfl⟩
      rw [← hy0] at yc0 hng
      have hm1 : (0 : Int) < (m : Int) := by omega
      cases hy : (y0 == 45) with
      | false =>
        rw [hy] at hng
        have HG := HL.out.2 hng
        rw [HD1.out hz] at HG
        have HG' : Hid (got = (!vb && decide (((n : Int) - (q : Nat)) + va ≤ 308))) := HG
        clear HG hng hy0 yc
        cases vb with
        | false =>
          go_wp2
          go_ret
          exact ⟨ret_bool (by rw [HG'.out]; simp), HB⟩
        | true =>
          go_wp2
          go_ret
          exact ⟨ret_bool (by rw [HG'.out]; simp), HB⟩
      | true =>
        rw [hy] at hng
        have HG := HL.out.1 hng
        rw [HD1.out hz] at HG
        have HG' : Hid (got = (vb || decide (((n : Int) - (q : Nat)) ≤ 308 + va))) := HG
        clear HG hng hy0 yc
        cases vb with
        | false =>
          go_wp2
          go_ret
          exact ⟨ret_bool (by rw [HG'.out]; simp), HB⟩
        | true =>
          go_wp2
          go_ret
          exact ⟨ret_bool (by rw [HG'.out]; simp), HB⟩
end Go.Proofs.Qxb6600495a.Fits
