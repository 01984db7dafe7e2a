import Derived.Test.Qxb6600550aD0
namespace Go.Proofs.Qxb6600550a.Rad
open Go.RowKit Go.Proofs.Qxb6600550a.Idx
theorem newChar_any (r m : Int) (x : Nat) (w : World) : Calls Try.prog 37 #[.int .i32 r, .int .i32 m, .float .f64 x] w fun e w' => e = .returned (.agg #[.int .i32 r, .int .i32 m, .float .f64 x]) ∧ w' = w.alloc (.cells #[.int .i32 r, .int .i32 m, .float .f64 x] 68) := by
  have hst := store_float w (.int .i32 r) (.int .i32 m) 0 x 68
  go_enter Try.func37, Try.ntmps37
  go_wp2
  exact bodyPost_ret (v := .agg #[.int .i32 r, .int .i32 m, .float .f64 x]) (by simp [results, Try.results37, go_sem]) rfl ⟨rfl, rfl⟩
theorem newContent_any (g : Int) (a : Option Addr) (l c : Nat) (x : Nat) (w : World) : Calls Try.prog 38 #[.int .i64 g, .slice a l c, .float .f64 x] w fun e w' => e = .returned (.agg #[.int .i64 g, .slice a l c, .float .f64 x]) ∧ w' = w.alloc (.cells #[.int .i64 g, .slice a l c, .float .f64 x] 73) := by
  have hst := store_float w (.int .i64 g) (.slice a l c) 0 x 73
  go_enter Try.func38, Try.ntmps38
  go_wp2
  exact bodyPost_ret (v := .agg #[.int .i64 g, .slice a l c, .float .f64 x]) (by simp [results, Try.results38, go_sem]) rfl ⟨rfl, rfl⟩
end Go.Proofs.Qxb6600550a.Rad
