import Derived.Test.Qxb6600550aC7
namespace Go.Proofs.Qxb6600550a.Rad
open Go.RowKit
set_option maxRecDepth 100000 in
/-- zzSameInt32s of two rows that hold the same. -/
theorem same32_any (A B n cA cB : Nat) (v : Nat → Int) (w : World) (hn : n ≤ 1048576) (ha : ∀ i, i < n → w.cell? ⟨A, i, none⟩ = some (.int .i32 (v i))) (hb : ∀ i, i < n → w.cell? ⟨B, i, none⟩ = some (.int .i32 (v i))) :
    Calls Try.prog 21 #[.slice (some ⟨A, 0, none⟩) n cA, .slice (some ⟨B, 0, none⟩) n cB] w fun e w' => e = .returned (.bool true) ∧ ∃ j, w' = w.drewN j := by
  have HA : Hid (∀ i, i < n → w.cell? ⟨A, i, none⟩ = some (.int .i32 (v i))) := ha
  have HB : Hid (∀ i, i < n → w.cell? ⟨B, i, none⟩ = some (.int .i32 (v i))) := hb
  clear ha hb
  have hneq : ((n : Int) != (n : Int)) = false := by simp
  go_enter Try.func21, Try.ntmps21
  go_wp2
  go_loopw [5] (fun i wr => ∃ q : Nat, q ≤ n ∧ i = .int .i64 q ∧ Hid (∃ j, wr = w.drewN j)) (fun i _ => n - (intOf i).toNat)
  case atStart => exact ⟨0, Nat.zero_le _, rfl, 0, rfl⟩
  case round =>
    obtain ⟨q, hq, rfl, HJ⟩ := hrel
    by_cases hlt : q < n
    · have h1 : wr.cell? ⟨A, q, none⟩ = some (.int .i32 (v q)) := by obtain ⟨j, rfl⟩ := HJ.out; exact HA.out q hlt
      have h2 : wr.cell? ⟨B, q, none⟩ = some (.int .i32 (v q)) := by obtain ⟨j, rfl⟩ := HJ.out; exact HB.out q hlt
      have h3 : (v q != v q) = false := by simp
      go_wp2
      go_region
      all_goals
        go_wp2
        go_roundw
        case rel => exact ⟨q + 1, by omega, by go_num, by obtain ⟨j, rfl⟩ := HJ.out; exact ⟨j + 1, rfl⟩⟩
        case measure => simp [intOf]; omega
    · go_wp2
      go_ret
      exact ⟨rfl, HJ.out⟩
end Go.Proofs.Qxb6600550a.Rad
