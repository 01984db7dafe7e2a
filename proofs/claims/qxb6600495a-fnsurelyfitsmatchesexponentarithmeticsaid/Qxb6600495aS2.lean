import Derived.Test.Qxb6600495aS1
namespace Go.Proofs.Qxb6600495a.Fits
open Go.RowKit

def dig (zs : List Int) : Int := if zs.getD 0 0 = 48 then 0 else (zs.length : Int) - cnt 95 zs
def neg (zs : List Int) : Bool := decide (0 < zs.length) && (zs.getD 0 0 == 45)
def sf (W E : List Int) : Bool := decide (dig W + (if neg E = true then -ex E 0 else ex E 0) ≤ 308)
theorem ret_bool {x y : Bool} (h : x = y) : Ending.returned (.bool x) = .returned (.bool y) := by rw [h]

set_option maxHeartbeats 1600000 in
theorem sf_z_e (w : World) (b off n cap : Nat) (zs : List Int) (hn0 : 0 < n) (hc : ∀ i, i < n → w.cell? ⟨b, off + i, none⟩ = some (.int .u8 (zs.getD i 0))) (a2 : Option Addr) (cap2 : Nat) (hz0 : (zs.getD 0 0 != 48) = false) :
    Calls Try.prog 24 #[.slice (some ⟨b, off, none⟩) n cap, .slice a2 0 cap2] w fun e w' => e = .returned (.bool (sf zs [])) ∧ w' = w := by
  have hc0 : w.cell? ⟨b, off, none⟩ = some (.int .u8 (zs.getD 0 0)) := by simpa using hc 0 hn0
  obtain ⟨z0, hzz0⟩ : ∃ z, z = zs.getD 0 0 := ⟨_, rfl⟩
  have HM : Hid (dig zs = 0) := by show dig zs = 0; rw [dig, if_pos (by simpa using hz0)]
  rw [← hzz0] at hc0 hz0
  clear hc hzz0
  go_enter Try.func24, Try.ntmps24
  go_wp2
  refine wp_loop_rounds 1 ?_
  rw [rounds_succ]
  have HF : Hid (sf zs [] = decide ((0 : Int) ≤ 308)) := by show _ = _; rw [sf, HM.out]; simp [neg, ex]
  go_wp2
  go_ret
  exact ⟨ret_bool (Eq.trans (by first | rfl | simp | decide) HF.out.symm), rfl⟩

set_option maxHeartbeats 1600000 in
theorem sf_z_r (w : World) (b off n cap : Nat) (zs : List Int) (hn0 : 0 < n) (hc : ∀ i, i < n → w.cell? ⟨b, off + i, none⟩ = some (.int .u8 (zs.getD i 0))) (b2 o2 m cap2 : Nat) (ys : List Int) (yl : ys.length = m) (hm : m ≤ 1048576) (hm0 : 0 < m) (hy : ∀ i, 0 ≤ ys.getD i 0 ∧ ys.getD i 0 ≤ 255) (yc : ∀ i, i < m → w.cell? ⟨b2, o2 + i, none⟩ = some (.int .u8 (ys.getD i 0))) (hz0 : (zs.getD 0 0 != 48) = false) :
    Calls Try.prog 24 #[.slice (some ⟨b, off, none⟩) n cap, .slice (some ⟨b2, o2, none⟩) m cap2] w fun e w' => e = .returned (.bool (sf zs ys)) ∧ w' = w := by
  have hc0 : w.cell? ⟨b, off, none⟩ = some (.int .u8 (zs.getD 0 0)) := by simpa using hc 0 hn0
  obtain ⟨z0, hzz0⟩ : ∃ z, z = zs.getD 0 0 := ⟨_, rfl⟩
  have HM : Hid (dig zs = 0) := by show dig zs = 0; rw [dig, if_pos (by simpa using hz0)]
  rw [← hzz0] at hc0 hz0
  clear hc hzz0
  go_enter Try.func24, Try.ntmps24
  go_wp2
  go_loop [8, 28] (fun t i => ∃ (k : Nat) (e : Int), k ≤ m ∧ i = .int .i64 k ∧ t = .int .i64 e ∧ 0 ≤ e ∧ e ≤ 99999 ∧ Hid (ex ys 0 = ex (ys.drop k) e)) (fun _ i => m - (intOf i).toNat)
  case atStart => exact ⟨0, 0, Nat.zero_le _, rfl, rfl, by omega, by omega, rfl⟩
  case round =>
    obtain ⟨k, e, hk, rfl, rfl, he0, he1, HE⟩ := hrel
    by_cases hlt : k < m
    · have hcell := yc k hlt
      obtain ⟨z, hzz⟩ : ∃ z, z = ys.getD k 0 := ⟨_, rfl⟩
      have hz1 := hy k
      have HD : Hid (ys.drop k = z :: ys.drop (k + 1)) := by show _ = _; rw [drop_cons ys k (by omega), hzz]
      rw [← hzz] at hcell hz1
      clear yc hy hzz yl
      obtain ⟨hz1, hz2⟩ := hz1
      by_cases h1 : 48 ≤ z
      · by_cases h2 : z ≤ 57
        · by_cases h3 : e < 10000
          · have HE2 : Hid (ex ys 0 = ex (ys.drop (k + 1)) (e * 10 + (z - 48))) := by show _ = _; rw [HE.out, HD.out, ex_yes h1 h2 h3]
            go_wp2
            go_round
            case rel => exact ⟨k + 1, e * 10 + (z - 48), by omega, by go_num, by go_num, by omega, by omega, HE2⟩
            case measure => simp [intOf]; omega
          · have HE2 : Hid (ex ys 0 = ex (ys.drop (k + 1)) e) := by show _ = _; rw [HE.out, HD.out, ex_no (by omega)]
            go_wp2
            go_round
            case rel => exact ⟨k + 1, e, by omega, by go_num, rfl, he0, he1, HE2⟩
            case measure => simp [intOf]; omega
        · have HE2 : Hid (ex ys 0 = ex (ys.drop (k + 1)) e) := by show _ = _; rw [HE.out, HD.out, ex_no (by omega)]
          have hd : decide (z ≤ 57) = false := by simpa using h2
          go_wp2
          go_round
          case rel => exact ⟨k + 1, e, by omega, by go_num, rfl, he0, he1, HE2⟩
          case measure => simp [intOf]; omega
      · have HE2 : Hid (ex ys 0 = ex (ys.drop (k + 1)) e) := by show _ = _; rw [HE.out, HD.out, ex_no (by omega)]
        have hd : decide (48 ≤ z) = false := by simpa using h1
        go_wp2
        go_round
        case rel => exact ⟨k + 1, e, by omega, by go_num, rfl, he0, he1, HE2⟩
        case measure => simp [intOf]; omega
    · have HE2 : Hid (ex ys 0 = e) := by show _ = _; rw [HE.out, List.drop_eq_nil_of_le (by omega)]; rfl
      have hy0 : w.cell? ⟨b2, o2, none⟩ = some (.int .u8 (ys.getD 0 0)) := by simpa using yc 0 hm0
      obtain ⟨z, hzz⟩ : ∃ z, z = ys.getD 0 0 := ⟨_, rfl⟩
      have HZ : Hid (neg ys = (z == 45)) := by show _ = _; rw [neg, yl, hzz]; simp [hm0]
      rw [← hzz] at hy0
      clear yc hy hzz yl
      by_cases h1 : (z == 45) = true
      · have HF : Hid (sf zs ys = decide (-e ≤ 308)) := by show _ = _; rw [sf, HZ.out, if_pos h1, HE2.out, HM.out, Int.zero_add]
        go_wp2
        go_ret
        exact ⟨ret_bool (Eq.trans (by first | rfl | simp | decide) HF.out.symm), rfl⟩
      · have h1' : (z == 45) = false := by simpa using h1
        have HF : Hid (sf zs ys = decide (e ≤ 308)) := by show _ = _; rw [sf, HZ.out, if_neg h1, HE2.out, HM.out, Int.zero_add]
        go_wp2
        go_ret
        exact ⟨ret_bool (Eq.trans (by first | rfl | simp | decide) HF.out.symm), rfl⟩

set_option maxHeartbeats 1600000 in
theorem sf_d_e (w : World) (b off n cap : Nat) (zs : List Int) (hl : zs.length = n) (hn : n ≤ 10000) (hn0 : 0 < n) (hc : ∀ i, i < n → w.cell? ⟨b, off + i, none⟩ = some (.int .u8 (zs.getD i 0))) (a2 : Option Addr) (cap2 : Nat) (hz0 : (zs.getD 0 0 != 48) = true) :
    Calls Try.prog 24 #[.slice (some ⟨b, off, none⟩) n cap, .slice a2 0 cap2] w fun e w' => e = .returned (.bool (sf zs [])) ∧ w' = w := by
  have hc0 : w.cell? ⟨b, off, none⟩ = some (.int .u8 (zs.getD 0 0)) := by simpa using hc 0 hn0
  obtain ⟨z0, hzz0⟩ : ∃ z, z = zs.getD 0 0 := ⟨_, rfl⟩
  rw [← hzz0] at hc0
  have hz0' := hz0
  rw [← hzz0] at hz0'
  have HZ0 : Hid ((zs.getD 0 0 != 48) = true) := hz0
  clear hz0 hzz0
  go_enter Try.func24, Try.ntmps24
  go_wp2
  go_loop [5, 17] (fun t i => ∃ k : Nat, k ≤ n ∧ i = .int .i64 k ∧ t = .int .i64 ((k : Int) - (cnt 95 (zs.take k) : Nat))) (fun _ i => n - (intOf i).toNat)
  case atStart => exact ⟨0, Nat.zero_le _, rfl, rfl⟩
  case round =>
    obtain ⟨k, hk, rfl, rfl⟩ := hrel
    have hle := cnt_le 95 (zs.take k)
    have hle2 : (zs.take k).length ≤ k := List.length_take_le _ _
    by_cases hlt : k < n
    · have hcell := hc k hlt
      have HS : Hid (cnt 95 (zs.take (k + 1)) = cnt 95 (zs.take k) + if (zs.getD k 0 == 95) = true then 1 else 0) := by show _ = _; rw [take_snoc zs k (by omega), cnt_snoc]
      obtain ⟨z, hz⟩ : ∃ z, z = zs.getD k 0 := ⟨_, rfl⟩
      rw [← hz] at hcell HS
      clear hc hl hz hc0 hz0'
      by_cases ht : (z == 95) = true
      · have ht2 : (z != 95) = false := by simpa using ht
        go_wp2
        go_round
        case rel => exact ⟨k + 1, by omega, by go_num, by rw [HS.out, if_pos ht]; go_num⟩
        case measure => simp [intOf]; omega
      · have ht2 : (z != 95) = true := by simpa using ht
        go_wp2
        go_round
        case rel => exact ⟨k + 1, by omega, by go_num, by rw [HS.out, if_neg ht]; go_num⟩
        case measure => simp [intOf]; omega
    · have HM : Hid (dig zs = (k : Int) - (cnt 95 (zs.take k) : Nat)) := by
        obtain rfl : k = zs.length := by omega
        show dig zs = _
        rw [dig, if_neg (by simpa using HZ0.out), List.take_length]
      clear hc hl hc0 hz0'
      obtain ⟨M, hM⟩ : ∃ M, M = (k : Int) - (cnt 95 (zs.take k) : Nat) := ⟨_, rfl⟩
      have hM0 : 0 ≤ M := by omega
      have hM1 : M ≤ 10000 := by omega
      rw [← hM] at HM ⊢
      clear hM hle hle2
      go_wp2
      refine wp_loop_rounds 1 ?_
      rw [rounds_succ]
      have HF : Hid (sf zs [] = decide (M ≤ 308)) := by show _ = _; rw [sf, HM.out]; simp [neg, ex]
      go_wp2
      go_ret
      exact ⟨ret_bool (Eq.trans (by first | rfl | simp | decide) HF.out.symm), rfl⟩

set_option maxHeartbeats 1600000 in
theorem sf_d_r (w : World) (b off n cap : Nat) (zs : List Int) (hl : zs.length = n) (hn : n ≤ 10000) (hn0 : 0 < n) (hc : ∀ i, i < n → w.cell? ⟨b, off + i, none⟩ = some (.int .u8 (zs.getD i 0))) (b2 o2 m cap2 : Nat) (ys : List Int) (yl : ys.length = m) (hm : m ≤ 1048576) (hm0 : 0 < m) (hy : ∀ i, 0 ≤ ys.getD i 0 ∧ ys.getD i 0 ≤ 255) (yc : ∀ i, i < m → w.cell? ⟨b2, o2 + i, none⟩ = some (.int .u8 (ys.getD i 0))) (hz0 : (zs.getD 0 0 != 48) = true) :
    Calls Try.prog 24 #[.slice (some ⟨b, off, none⟩) n cap, .slice (some ⟨b2, o2, none⟩) m cap2] w fun e w' => e = .returned (.bool (sf zs ys)) ∧ w' = w := by
  have hc0 : w.cell? ⟨b, off, none⟩ = some (.int .u8 (zs.getD 0 0)) := by simpa using hc 0 hn0
  obtain ⟨z0, hzz0⟩ : ∃ z, z = zs.getD 0 0 := ⟨_, rfl⟩
  rw [← hzz0] at hc0
  have hz0' := hz0
  rw [← hzz0] at hz0'
  have HZ0 : Hid ((zs.getD 0 0 != 48) = true) := hz0
  clear hz0 hzz0
  go_enter Try.func24, Try.ntmps24
  go_wp2
  go_loop [5, 17] (fun t i => ∃ k : Nat, k ≤ n ∧ i = .int .i64 k ∧ t = .int .i64 ((k : Int) - (cnt 95 (zs.take k) : Nat))) (fun _ i => n - (intOf i).toNat)
  case atStart => exact ⟨0, Nat.zero_le _, rfl, rfl⟩
  case round =>
    obtain ⟨k, hk, rfl, rfl⟩ := hrel
    have hle := cnt_le 95 (zs.take k)
    have hle2 : (zs.take k).length ≤ k := List.length_take_le _ _
    by_cases hlt : k < n
    · have hcell := hc k hlt
      have HS : Hid (cnt 95 (zs.take (k + 1)) = cnt 95 (zs.take k) + if (zs.getD k 0 == 95) = true then 1 else 0) := by show _ = _; rw [take_snoc zs k (by omega), cnt_snoc]
      obtain ⟨z, hz⟩ : ∃ z, z = zs.getD k 0 := ⟨_, rfl⟩
      rw [← hz] at hcell HS
      clear hc hl hz hc0 hz0'
      by_cases ht : (z == 95) = true
      · have ht2 : (z != 95) = false := by simpa using ht
        go_wp2
        go_round
        case rel => exact ⟨k + 1, by omega, by go_num, by rw [HS.out, if_pos ht]; go_num⟩
        case measure => simp [intOf]; omega
      · have ht2 : (z != 95) = true := by simpa using ht
        go_wp2
        go_round
        case rel => exact ⟨k + 1, by omega, by go_num, by rw [HS.out, if_neg ht]; go_num⟩
        case measure => simp [intOf]; omega
    · have HM : Hid (dig zs = (k : Int) - (cnt 95 (zs.take k) : Nat)) := by
        obtain rfl : k = zs.length := by omega
        show dig zs = _
        rw [dig, if_neg (by simpa using HZ0.out), List.take_length]
      clear hc hl hc0 hz0'
      obtain ⟨M, hM⟩ : ∃ M, M = (k : Int) - (cnt 95 (zs.take k) : Nat) := ⟨_, rfl⟩
      have hM0 : 0 ≤ M := by omega
      have hM1 : M ≤ 10000 := by omega
      rw [← hM] at HM ⊢
      clear hM hle hle2
      go_wp2
      go_loop [8, 28] (fun t i => ∃ (k : Nat) (e : Int), k ≤ m ∧ i = .int .i64 k ∧ t = .int .i64 e ∧ 0 ≤ e ∧ e ≤ 99999 ∧ Hid (ex ys 0 = ex (ys.drop k) e)) (fun _ i => m - (intOf i).toNat)
      case atStart => exact ⟨0, 0, Nat.zero_le _, rfl, rfl, by omega, by omega, rfl⟩
      case round =>
        obtain ⟨k, e, hk, rfl, rfl, he0, he1, HE⟩ := hrel
        by_cases hlt : k < m
        · have hcell := yc k hlt
          obtain ⟨z, hzz⟩ : ∃ z, z = ys.getD k 0 := ⟨_, rfl⟩
          have hz1 := hy k
          have HD : Hid (ys.drop k = z :: ys.drop (k + 1)) := by show _ = _; rw [drop_cons ys k (by omega), hzz]
          rw [← hzz] at hcell hz1
          clear yc hy hzz yl
          obtain ⟨hz1, hz2⟩ := hz1
          by_cases h1 : 48 ≤ z
          · by_cases h2 : z ≤ 57
            · by_cases h3 : e < 10000
              · have HE2 : Hid (ex ys 0 = ex (ys.drop (k + 1)) (e * 10 + (z - 48))) := by show _ = _; rw [HE.out, HD.out, ex_yes h1 h2 h3]
                go_wp2
                go_round
                case rel => exact ⟨k + 1, e * 10 + (z - 48), by omega, by go_num, by go_num, by omega, by omega, HE2⟩
                case measure => simp [intOf]; omega
              · have HE2 : Hid (ex ys 0 = ex (ys.drop (k + 1)) e) := by show _ = _; rw [HE.out, HD.out, ex_no (by omega)]
                go_wp2
                go_round
                case rel => exact ⟨k + 1, e, by omega, by go_num, rfl, he0, he1, HE2⟩
                case measure => simp [intOf]; omega
            · have HE2 : Hid (ex ys 0 = ex (ys.drop (k + 1)) e) := by show _ = _; rw [HE.out, HD.out, ex_no (by omega)]
              have hd : decide (z ≤ 57) = false := by simpa using h2
              go_wp2
              go_round
              case rel => exact ⟨k + 1, e, by omega, by go_num, rfl, he0, he1, HE2⟩
              case measure => simp [intOf]; omega
          · have HE2 : Hid (ex ys 0 = ex (ys.drop (k + 1)) e) := by show _ = _; rw [HE.out, HD.out, ex_no (by omega)]
            have hd : decide (48 ≤ z) = false := by simpa using h1
            go_wp2
            go_round
            case rel => exact ⟨k + 1, e, by omega, by go_num, rfl, he0, he1, HE2⟩
            case measure => simp [intOf]; omega
        · have HE2 : Hid (ex ys 0 = e) := by show _ = _; rw [HE.out, List.drop_eq_nil_of_le (by omega)]; rfl
          have hy0 : w.cell? ⟨b2, o2, none⟩ = some (.int .u8 (ys.getD 0 0)) := by simpa using yc 0 hm0
          obtain ⟨z, hzz⟩ : ∃ z, z = ys.getD 0 0 := ⟨_, rfl⟩
          have HZ : Hid (neg ys = (z == 45)) := by show _ = _; rw [neg, yl, hzz]; simp [hm0]
          rw [← hzz] at hy0
          clear yc hy hzz yl
          by_cases h1 : (z == 45) = true
          · have HF : Hid (sf zs ys = decide (M + -e ≤ 308)) := by show _ = _; rw [sf, HZ.out, if_pos h1, HE2.out, HM.out]
            go_wp2
            go_ret
            exact ⟨ret_bool (Eq.trans (by first | rfl | simp | decide) HF.out.symm), rfl⟩
          · have h1' : (z == 45) = false := by simpa using h1
            have HF : Hid (sf zs ys = decide (M + e ≤ 308)) := by show _ = _; rw [sf, HZ.out, if_neg h1, HE2.out, HM.out]
            go_wp2
            go_ret
            exact ⟨ret_bool (Eq.trans (by first | rfl | simp | decide) HF.out.symm), rfl⟩
end Go.Proofs.Qxb6600495a.Fits
