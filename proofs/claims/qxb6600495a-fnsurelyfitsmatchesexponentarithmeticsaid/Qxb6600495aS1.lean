import Derived.Test.Qxb6600495aS0
import Derived.Test.Qxb6600495aProg
import Derived.WalkKit
import Derived.ProofKit
import Derived.WalkSpells
import Derived.WalkLawsBesides
namespace Go.Proofs.Qxb6600495a.Fits
open Go.RowKit

/-- The n elements of a slice at a are the bytes zs. -/
def Row (w : World) (a : Option Addr) (n : Nat) (zs : List Int) : Prop :=
  zs.length = n ∧ (∀ i, 0 ≤ zs.getD i 0 ∧ zs.getD i 0 ≤ 255) ∧ (0 < n → ∃ b off, a = some ⟨b, off, none⟩ ∧ ∀ i, i < n → w.cell? ⟨b, off + i, none⟩ = some (.int .u8 (zs.getD i 0)))

theorem ret_int {k : IntKind} {a b : Int} (h : a = b) : Ending.returned (.int k a) = .returned (.int k b) := by rw [h]

theorem isDigit_any (c : Int) (w : World) : Calls Try.prog 27 #[.int .u8 c] w fun e w' => e = .returned (.bool (decide (48 ≤ c) && decide (c ≤ 57))) ∧ w' = w := by
  by_cases h : 48 ≤ c
  · by_cases h2 : c ≤ 57
    · go_enter Try.func27, Try.ntmps27
      go_wp2
      go_ret
      exact ⟨by simp [h, h2], rfl⟩
    · have hd : decide (c ≤ 57) = false := by simpa using h2
      go_enter Try.func27, Try.ntmps27
      go_wp2
      go_ret
      exact ⟨by simp, rfl⟩
  · have hd : decide (48 ≤ c) = false := by simpa using h
    go_enter Try.func27, Try.ntmps27
    go_wp2
    go_ret
    exact ⟨by simp, rfl⟩

set_option maxHeartbeats 400000 in
theorem count_row (b off n cap : Nat) (zs : List Int) (c : Int) (w : World) (hl : zs.length = n) (hn : n ≤ 1048576) (hc : ∀ i, i < n → w.cell? ⟨b, off + i, none⟩ = some (.int .u8 (zs.getD i 0))) :
    Calls Try.prog 11 #[.slice (some ⟨b, off, none⟩) n cap, .int .u8 c] w fun e w' => e = .returned (.int .i64 (cnt c zs)) ∧ w' = w := by
  go_enter Try.func11, Try.ntmps11
  go_wp2
  go_loop [5, 6] (fun t i => ∃ k : Nat, k ≤ n ∧ i = .int .i64 k ∧ t = .int .i64 (cnt c (zs.take k))) (fun _ i => n - (intOf i).toNat)
  case atStart => exact ⟨0, Nat.zero_le _, rfl, rfl⟩
  case round =>
    obtain ⟨k, hk, rfl, rfl⟩ := hrel
    have hle := cnt_le c (zs.take k)
    have hle2 : (zs.take k).length ≤ k := List.length_take_le _ _
    by_cases hlt : k < n
    · have hcell := hc k hlt
      have HS : Hid (cnt c (zs.take (k + 1)) = cnt c (zs.take k) + if (zs.getD k 0 == c) = true then 1 else 0) := by show _ = _; rw [take_snoc zs k (by omega), cnt_snoc]
      obtain ⟨z, hz⟩ : ∃ z, z = zs.getD k 0 := ⟨_, rfl⟩
      rw [← hz] at hcell HS
      clear hc hl hz
      by_cases ht : (z == c) = true
      · go_wp2
        go_round
        case rel => exact ⟨k + 1, by omega, by go_num, by rw [HS.out, if_pos ht]; go_num⟩
        case measure => simp [intOf]; omega
      · have ht' : (z == c) = false := by simpa using ht
        go_wp2
        go_round
        case rel => exact ⟨k + 1, by omega, by go_num, by rw [HS.out, if_neg ht]; go_num⟩
        case measure => simp [intOf]; omega
    · go_wp2
      go_ret
      exact ⟨ret_int (by rw [List.take_of_length_le (by omega)]), rfl⟩

/-- The bounds of exponentValue's state. -/
def Bd (s : Nat) (v : Int) : Prop := 0 ≤ v ∧ ((s = 0 ∧ v = 0) ∨ (s = 1 ∧ v ≤ 9) ∨ (s = 2 ∧ v ≤ 99) ∨ (s = 3 ∧ v ≤ 999) ∨ (s = 4 ∧ v ≤ 9999) ∨ (s = 5 ∧ v ≤ 99999) ∨ (s = 6 ∧ v ≤ 999999))
theorem Bd.le {s : Nat} {v : Int} (h : Bd s v) : s ≤ 6 ∧ 0 ≤ v ∧ v ≤ 999999 := by
  obtain ⟨h0, h⟩ := h
  rcases h with h | h | h | h | h | h | h <;> omega
theorem Bd.step {s : Nat} {v c : Int} (h : Bd s v) (h1 : 48 ≤ c) (h2 : c ≤ 57) (h3 : ¬ 6 < s + 1) : Bd (s + 1) (v * 10 + (c - 48)) := by
  obtain ⟨h0, h⟩ := h
  refine ⟨by omega, ?_⟩
  rcases h with h | h | h | h | h | h | h <;> omega

def evv (zs : List Int) : Int := (ev zs 0 0).getD 0
def evb (zs : List Int) : Bool := (ev zs 0 0).isNone

theorem ret_two {k : IntKind} {a b : Int} {x y : Bool} (h : a = b) (h2 : x = y) : Ending.returned (.tuple #[.int k a, .bool x]) = .returned (.tuple #[.int k b, .bool y]) := by rw [h, h2]

set_option maxHeartbeats 800000 in
theorem exp_row (b off n cap : Nat) (zs : List Int) (w : World) (hl : zs.length = n) (hn : n ≤ 1048576) (hz : ∀ i, 0 ≤ zs.getD i 0 ∧ zs.getD i 0 ≤ 255) (hc : ∀ i, i < n → w.cell? ⟨b, off + i, none⟩ = some (.int .u8 (zs.getD i 0))) :
    Calls Try.prog 12 #[.slice (some ⟨b, off, none⟩) n cap] w fun e w' => e = .returned (.tuple #[.int .i64 (evv zs), .bool (evb zs)]) ∧ w' = w := by
  go_enter Try.func12, Try.ntmps12
  go_wp2
  go_loop [4, 5, 6] (fun sg vl i => ∃ (k s : Nat) (v : Int), k ≤ n ∧ i = .int .i64 k ∧ sg = .int .i64 s ∧ vl = .int .i64 v ∧ Bd s v ∧ Hid (ev zs 0 0 = ev (zs.drop k) s v)) (fun _ _ i => n - (intOf i).toNat)
  case atStart => exact ⟨0, 0, 0, Nat.zero_le _, rfl, rfl, rfl, ⟨by omega, .inl ⟨rfl, rfl⟩⟩, rfl⟩
  case round =>
    obtain ⟨k, s, v, hk, rfl, rfl, rfl, hbd, HE⟩ := hrel
    obtain ⟨hs6, hv0, hv1⟩ := hbd.le
    have HB : Hid (Bd s v) := hbd
    clear hbd
    by_cases hlt : k < n
    · have hcell := hc k hlt
      obtain ⟨z, hzz⟩ : ∃ z, z = zs.getD k 0 := ⟨_, rfl⟩
      have hz1 := hz k
      have HD : Hid (zs.drop k = z :: zs.drop (k + 1)) := by show _ = _; rw [drop_cons zs k (by omega), hzz]
      rw [← hzz] at hcell hz1
      clear hc hl hzz hz
      obtain ⟨hz1, hz2⟩ := hz1
      by_cases h1 : z < 48
      · have HE2 : Hid (ev zs 0 0 = ev (zs.drop (k + 1)) s v) := by show _ = _; rw [HE.out, HD.out, ev_skip (.inl h1)]
        go_wp2
        go_round
        case rel => exact ⟨k + 1, s, v, by omega, by go_num, rfl, rfl, HB, HE2⟩
        case measure => simp [intOf]; omega
      by_cases h2 : 57 < z
      · have HE2 : Hid (ev zs 0 0 = ev (zs.drop (k + 1)) s v) := by show _ = _; rw [HE.out, HD.out, ev_skip (.inr h2)]
        go_wp2
        go_round
        case rel => exact ⟨k + 1, s, v, by omega, by go_num, rfl, rfl, HB, HE2⟩
        case measure => simp [intOf]; omega
      by_cases h3 : s = 0 ∧ z = 48
      · obtain ⟨rfl, rfl⟩ := h3
        have HE2 : Hid (ev zs 0 0 = ev (zs.drop (k + 1)) 0 v) := by show _ = _; rw [HE.out, HD.out, ev_zero rfl]
        go_wp2
        go_round
        case rel => exact ⟨k + 1, 0, v, by omega, by go_num, rfl, rfl, HB, HE2⟩
        case measure => simp [intOf]; omega
      · by_cases h4 : 6 < s + 1
        · have HE2 : Hid (ev zs 0 0 = none) := by show _ = _; rw [HE.out, HD.out, ev_big (by omega) (by omega) h3 h4]
          have h5 : ((s : Int) == 0) = false := by simp; omega
          have H3 : Hid (¬ (s = 0 ∧ z = 48)) := h3
          clear h3
          go_wp2
          go_ret2
          exact ⟨ret_two (by simp [evv, HE2.out]) (by simp [evb, HE2.out]), rfl⟩
        · have HE2 : Hid (ev zs 0 0 = ev (zs.drop (k + 1)) (s + 1) (v * 10 + (z - 48))) := by show _ = _; rw [HE.out, HD.out, ev_dig (by omega) (by omega) h3 h4]
          have HB2 : Hid (Bd (s + 1) (v * 10 + (z - 48))) := HB.out.step (by omega) (by omega) h4
          by_cases h5 : s = 0
          · subst h5
            have h6 : (z == 48) = false := by simp; omega
            clear h3
            go_wp2
            go_round
            case rel => exact ⟨k + 1, 1, v * 10 + (z - 48), by omega, by go_num, by go_num, by go_num, HB2, HE2⟩
            case measure => simp [intOf]; omega
          · have h6 : ((s : Int) == 0) = false := by simp; omega
            clear h3
            go_wp2
            go_round
            case rel => exact ⟨k + 1, s + 1, v * 10 + (z - 48), by omega, by go_num, by go_num, by go_num, HB2, HE2⟩
            case measure => simp [intOf]; omega
    · have HE2 : Hid (ev zs 0 0 = some v) := by show _ = _; rw [HE.out, List.drop_eq_nil_of_le (by omega)]; rfl
      go_wp2
      go_ret2
      exact ⟨ret_two (by simp [evv, HE2.out]) (by simp [evb, HE2.out]), rfl⟩

theorem exp_none (a : Option Addr) (cap : Nat) (w : World) :
    Calls Try.prog 12 #[.slice a 0 cap] w fun e w' => e = .returned (.tuple #[.int .i64 (evv []), .bool (evb [])]) ∧ w' = w := by
  go_enter Try.func12, Try.ntmps12
  go_wp2
  refine wp_loop_rounds 1 ?_
  rw [rounds_succ]
  go_wp2
  go_ret2
  exact ⟨rfl, rfl⟩

theorem exp_any (a : Option Addr) (n cap : Nat) (zs : List Int) (w : World) (hn : n ≤ 1048576) (h : Row w a n zs) :
    Calls Try.prog 12 #[.slice a n cap] w fun e w' => e = .returned (.tuple #[.int .i64 (evv zs), .bool (evb zs)]) ∧ w' = w := by
  obtain ⟨hl, hz, hc⟩ := h
  by_cases h0 : n = 0
  · subst h0
    obtain rfl : zs = [] := List.eq_nil_of_length_eq_zero hl
    exact exp_none a cap w
  · obtain ⟨b, off, rfl, hc'⟩ := hc (by omega)
    exact exp_row b off n cap zs w hl hn hz hc'
end Go.Proofs.Qxb6600495a.Fits
