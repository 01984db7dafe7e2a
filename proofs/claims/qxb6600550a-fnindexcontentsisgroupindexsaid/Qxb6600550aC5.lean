import Derived.Test.Qxb6600550aC4
namespace Go.Proofs.Qxb6600550a.Rad
open Go.RowKit

/-! The readers of the index. -/
theorem kindCount_any (b : Nat) (a : Option Addr) (n c : Nat) (w : World) (h : w.cell? ⟨b, 0, none⟩ = some (.slice a n c)) :
    Calls Try.prog 20 #[.pointer (some ⟨b, 0, none⟩)] w fun e w' => e = .returned (.int .i64 (n : Nat)) ∧ w' = w := by
  go_enter Try.func20, Try.ntmps20
  go_wp2
  go_ret
  exact ⟨rfl, rfl⟩
theorem members_any (b : Nat) (a : Option Addr) (n c : Nat) (w : World) (h : w.cell? ⟨b, 1, none⟩ = some (.slice a n c)) :
    Calls Try.prog 22 #[.pointer (some ⟨b, 0, none⟩)] w fun e w' => e = .returned (.slice a n c) ∧ w' = w := by
  go_enter Try.func22, Try.ntmps22
  go_wp2
  go_ret
  exact ⟨rfl, rfl⟩
theorem firstMember_any (b : Nat) (a : Option Addr) (n c : Nat) (w : World) (h : w.cell? ⟨b, 2, none⟩ = some (.slice a n c)) :
    Calls Try.prog 23 #[.pointer (some ⟨b, 0, none⟩)] w fun e w' => e = .returned (.slice a n c) ∧ w' = w := by
  go_enter Try.func23, Try.ntmps23
  go_wp2
  go_ret
  exact ⟨rfl, rfl⟩
theorem sameFloat_self (x : Nat) (w : World) :
    Calls Try.prog 27 #[.float .f64 x, .float .f64 x] w fun e w' => e = .returned (.bool true) ∧ w' = w := by
  go_enter Try.func27, Try.ntmps27
  go_wp2
  all_goals
    go_ret
    exact ⟨by simp_all, rfl⟩
theorem holdingsRunes_any (b m : Nat) (f : Int → Option Value) (n : Nat) (w : World) (h : w.cell? ⟨b, 3, none⟩ = some (.map (some m))) (hm : IMap w m .i32 f n) :
    Calls Try.prog 24 #[.pointer (some ⟨b, 0, none⟩)] w fun e w' => e = .returned (.int .i64 (n : Nat)) ∧ w' = w := by
  have hl := fun (ty : TypeId) => hm.len (P := Try.prog) (ty := ty) Try.underlying80
  clear hm
  go_enter Try.func24, Try.ntmps24
  go_wp2
  go_ret
  exact ⟨rfl, rfl⟩
theorem letterlessCount_any (b m : Nat) (f : Int → Option Value) (n : Nat) (w : World) (h : w.cell? ⟨b, 4, none⟩ = some (.map (some m))) (hm : IMap w m .i64 f n) :
    Calls Try.prog 25 #[.pointer (some ⟨b, 0, none⟩)] w fun e w' => e = .returned (.int .i64 (n : Nat)) ∧ w' = w := by
  have hl := fun (ty : TypeId) => hm.len (P := Try.prog) (ty := ty) Try.underlying81
  clear hm
  go_enter Try.func25, Try.ntmps25
  go_wp2
  go_ret
  exact ⟨rfl, rfl⟩
theorem kindGroup_any (b g n c k : Nat) (x : Int) (w : World) (h : w.cell? ⟨b, 0, none⟩ = some (.slice (some ⟨g, 0, none⟩) n c)) (hk : k < n) (hx : w.cell? ⟨g, k * 3, none⟩ = some (.int .i64 x)) :
    Calls Try.prog 26 #[.pointer (some ⟨b, 0, none⟩), .int .i64 (k : Nat)] w fun e w' => e = .returned (.int .i64 x) ∧ w' = w := by
  go_enter Try.func26, Try.ntmps26
  go_wp2
  go_ret
  exact ⟨rfl, rfl⟩
theorem kindWeight_any (b g n c k : Nat) (x : Nat) (w : World) (h : w.cell? ⟨b, 0, none⟩ = some (.slice (some ⟨g, 0, none⟩) n c)) (hk : k < n) (hx : w.cell? ⟨g, k * 3 + 2, none⟩ = some (.float .f64 x)) :
    Calls Try.prog 28 #[.pointer (some ⟨b, 0, none⟩), .int .i64 (k : Nat)] w fun e w' => e = .returned (.float .f64 x) ∧ w' = w := by
  go_enter Try.func28, Try.ntmps28
  go_wp2
  go_ret
  exact ⟨rfl, rfl⟩
theorem kindCharsLen_any (b g n c k : Nat) (a' : Option Addr) (n' c' : Nat) (w : World) (h : w.cell? ⟨b, 0, none⟩ = some (.slice (some ⟨g, 0, none⟩) n c)) (hk : k < n) (hx : w.cell? ⟨g, k * 3 + 1, none⟩ = some (.slice a' n' c')) :
    Calls Try.prog 30 #[.pointer (some ⟨b, 0, none⟩), .int .i64 (k : Nat)] w fun e w' => e = .returned (.int .i64 (n' : Nat)) ∧ w' = w := by
  go_enter Try.func30, Try.ntmps30
  go_wp2
  go_ret
  exact ⟨rfl, rfl⟩
end Go.Proofs.Qxb6600550a.Rad
