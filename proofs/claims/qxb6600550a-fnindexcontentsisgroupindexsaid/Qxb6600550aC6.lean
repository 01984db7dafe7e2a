import Derived.Test.Qxb6600550aC5
namespace Go.Proofs.Qxb6600550a.Rad
open Go.RowKit

theorem zero21 (w : World) : (zeroValue 21).run Try.prog w = .ok (.int .i32 0) w := by kernel_rfl
theorem zero84 (w : World) : (zeroValue 84).run Try.prog w = .ok (.slice none 0 0) w := by kernel_rfl

theorem letterless_any (b m : Nat) (f : Int → Option Value) (n : Nat) (x k : Int) (ok : Bool) (w : World) (h : w.cell? ⟨b, 4, none⟩ = some (.map (some m))) (hm : IMap w m .i64 f n) (hk : (f x).getD (.int .i32 0) = .int .i32 k) (ho : (f x).isSome = ok) :
    Calls Try.prog 29 #[.pointer (some ⟨b, 0, none⟩), .int .i64 x] w fun e w' => e = .returned (.tuple #[.int .i32 k, .bool ok]) ∧ w' = w := by
  have hl := hm.look_ok (P := Try.prog) Try.underlying81 Try.underlying3 (zero21 w) x
  rw [hk, ho] at hl
  clear hm hk ho
  go_enter Try.func29, Try.ntmps29
  go_wp2
  go_ret2
  exact ⟨rfl, rfl⟩
theorem holdingsLen_any (b m : Nat) (f : Int → Option Value) (n : Nat) (x : Int) (a : Option Addr) (l c : Nat) (w : World) (h : w.cell? ⟨b, 3, none⟩ = some (.map (some m))) (hm : IMap w m .i32 f n) (hk : (f x).getD (.slice none 0 0) = .slice a l c) :
    Calls Try.prog 32 #[.pointer (some ⟨b, 0, none⟩), .int .i32 x] w fun e w' => e = .returned (.int .i64 (l : Nat)) ∧ w' = w := by
  have hl := hm.look (P := Try.prog) Try.underlying80 Try.underlying21 (zero84 w) x
  rw [hk] at hl
  clear hm hk
  go_enter Try.func32, Try.ntmps32
  go_wp2
  go_ret
  exact ⟨rfl, rfl⟩
theorem holding_any (b m : Nat) (f : Int → Option Value) (n : Nat) (x : Int) (g l c i : Nat) (k p : Int) (w : World) (h : w.cell? ⟨b, 3, none⟩ = some (.map (some m))) (hm : IMap w m .i32 f n) (hk : (f x).getD (.slice none 0 0) = .slice (some ⟨g, 0, none⟩) l c)
    (hi : i < l) (h0 : w.cell? ⟨g, i * 2, none⟩ = some (.int .i32 k)) (h1 : w.cell? ⟨g, i * 2 + 1, none⟩ = some (.int .i32 p)) :
    Calls Try.prog 33 #[.pointer (some ⟨b, 0, none⟩), .int .i32 x, .int .i64 (i : Nat)] w fun e w' => e = .returned (.tuple #[.int .i32 k, .int .i32 p]) ∧ ∃ o, w' = (w.alloc o).drew := by
  have hl := hm.look (P := Try.prog) Try.underlying80 Try.underlying21 (zero84 w) x
  rw [hk] at hl
  clear hm hk
  go_enter Try.func33, Try.ntmps33
  go_wp2
  go_region
  all_goals
    go_wp2
    go_ret2
    exact ⟨rfl, _, rfl⟩
end Go.Proofs.Qxb6600550a.Rad
