import Derived.Test.Qxb6600550aC6
import Derived.Deep.WholeRow
namespace Go.Proofs.Qxb6600550a.Rad
open Go.RowKit
theorem store_float (w : World) (u0 u1 : Value) (y x : Nat) (t : TypeId) : (store ⟨w.heap.size, 2, none⟩ (.float .f64 x)).run Try.prog (w.alloc (.cells #[u0, u1, .float .f64 y] t)) = .ok () (w.alloc (.cells #[u0, u1, .float .f64 x] t)) := by
  have hh := heap_alloc_new w (.cells #[u0, u1, .float .f64 y] t)
  rw [run_store _ _ _ _ _ (by rfl), cell_of_row _ w.heap.size 2 _ t (0, 0) hh, frozen_of_row _ w.heap.size 2 _ t hh, setCell_eq_setRow _ w.heap.size 2 _ t (0, 0) _ hh, World.setRow_alloc_new]
  rfl
theorem kindChar_any (b g n c k : Nat) (g' n' c' i : Nat) (r p : Int) (x : Nat) (w : World) (h : w.cell? ⟨b, 0, none⟩ = some (.slice (some ⟨g, 0, none⟩) n c)) (hk : k < n) (hx : w.cell? ⟨g, k * 3 + 1, none⟩ = some (.slice (some ⟨g', 0, none⟩) n' c'))
    (hi : i < n') (h0 : w.cell? ⟨g', i * 3, none⟩ = some (.int .i32 r)) (h1 : w.cell? ⟨g', i * 3 + 1, none⟩ = some (.int .i32 p)) (h2 : w.cell? ⟨g', i * 3 + 2, none⟩ = some (.float .f64 x)) :
    Calls Try.prog 31 #[.pointer (some ⟨b, 0, none⟩), .int .i64 (k : Nat), .int .i64 (i : Nat)] w fun e w' => e = .returned (.tuple #[.int .i32 r, .int .i32 p, .float .f64 x]) ∧ ∃ o, w' = (w.alloc o).drew := by
  have hst := store_float w (.int .i32 r) (.int .i32 p) 0 x 68
  go_enter Try.func31, Try.ntmps31
  go_wp2
  go_region
  all_goals
    go_wp2
    go_ret3
    exact ⟨rfl, _, rfl⟩
end Go.Proofs.Qxb6600550a.Rad
