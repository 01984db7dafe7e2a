import Derived.Test.Qxb6600550aC8
namespace Go.Proofs.Qxb6600550a.Rad
open Go.RowKit
set_option maxRecDepth 100000 in
set_option maxHeartbeats 600000 in
/-- The bound on the lengths answers something. -/
theorem zzb19_row (b off n c : Nat) (sh : Int) (L : Nat → Nat) (A : Nat → Option Addr) (C : Nat → Nat) (w : World) (hn : n ≤ 1048576) (hL : ∀ i, i < n → L i ≤ 9223372036854775807) (hc : ∀ i, i < n → w.cell? ⟨b, off + i * 3 + 1, none⟩ = some (.slice (A i) (L i) (C i))) :
    Calls Try.prog 19 #[.slice (some ⟨b, off, none⟩) n c, .int .i64 sh] w fun e w' => ∃ r, e = .returned (.bool r) ∧ w' = w := by
  have HC : Hid (∀ i, i < n → w.cell? ⟨b, off + i * 3 + 1, none⟩ = some (.slice (A i) (L i) (C i))) := hc
  clear hc
  go_enter Try.func19, Try.ntmps19
  go_wp2
  go_loopw [5, 6] (fun s i wr => ∃ q S : Nat, q ≤ n ∧ S ≤ 1048576 ∧ s = .int .i64 S ∧ i = .int .i64 q ∧ wr = w) (fun _ i _ => n - (intOf i).toNat)
  case atStart => exact ⟨0, n, Nat.zero_le _, hn, by simp, rfl, rfl⟩
  case round =>
    obtain ⟨q, S, hq, hS, rfl, rfl, rfl⟩ := hrel
    by_cases hlt : q < n
    · have h1 := HC.out q hlt
      have h2 := hL q hlt
      by_cases hbig : 1048576 < L q
      · go_wp2
        go_ret
        exact ⟨_, rfl, rfl⟩
      · by_cases hsum : 1048576 < S + L q
        · go_wp2
          go_ret
          exact ⟨_, rfl, rfl⟩
        · go_wp2
          go_roundw
          case rel => exact ⟨q + 1, S + L q, by omega, by omega, by go_num, by go_num, by trivial⟩
          case measure => simp [intOf]; omega
    · go_wp2
      go_ret
      exact ⟨_, rfl, rfl⟩
end Go.Proofs.Qxb6600550a.Rad
