import Derived.Test.Qxb6600550aC3
import Derived.Maps.AppendAt
import Derived.OwnWalk
import Derived.Lib.SliceRun
namespace Go.Proofs.Qxb6600550a.Rad
open Go.RowKit

theorem info21 : (Try.prog.info? 21).map (fun i => (i.zero, i.size, i.bytes)) = some (some (.int .i32 0), 1, 4) := by kernel_rfl

set_option maxRecDepth 100000 in
set_option maxHeartbeats 400000 in
/-- slices.Clone of a row that is there. -/
theorem clone_any (g n c : Nat) (xs : List Value) (w : World) (hn : n ≤ 1048576) (hl : xs.length = n) (hc : ∀ j u, xs[j]? = some u → w.cell? ⟨g, j, none⟩ = some u) (h1 : ∀ u ∈ xs, u.oneCell' = true) (hg : g < w.heap.size) :
    Calls Try.prog 44 #[.slice (some ⟨g, 0, none⟩) n c] w fun e w' => ∃ v, e = .returned v ∧ w'.ownsRow w.heap.size 21 1 v n xs ∧ v ≠ .slice none 0 0 ∧ Below w.heap.size w w' := by
  obtain ⟨i0, hi, hz0, hz1, hz2⟩ := info_parts info21
  have hown0 : (w.alloc (.cells #[] 21)).ownsRow w.heap.size 21 1 (.slice (some ⟨w.heap.size, 0, none⟩) 0 0) 0 [] := ⟨rfl, .inr ⟨_, _, #[], rfl, Nat.le_refl _, heap_alloc_new w _, Nat.le_refl _, by unfold maxLen; omega, rfl, rfl⟩⟩
  have hnews : ∀ j u, xs[j]? = some u → (w.alloc (.cells #[] 21)).cell? ((⟨g, 0, none⟩ : Addr).add j) = some u := fun j u hu => by
    rw [show (⟨g, 0, none⟩ : Addr).add j = ⟨g, j, none⟩ from by simp [Addr.add]; omega]
    exact (World.cell?_of_block (Below.heap_alloc _ _ _ hg)).trans (hc j u hu)
  have HC : Hid ((w.alloc (.cells #[] 21)).ownsRow w.heap.size 21 1 (.slice (some ⟨w.heap.size, 0, none⟩) 0 0) 0 [] ∧ ∀ j u, xs[j]? = some u → (w.alloc (.cells #[] 21)).cell? ((⟨g, 0, none⟩ : Addr).add j) = some u) := ⟨hown0, hnews⟩
  have H1 : Hid (∀ u ∈ xs, u.oneCell' = true) := h1
  clear hc h1 hown0 hnews
  have hnil := fun (w : World) (a : Option Addr) (n c n' c' : Nat) => Lib.run_eql_slice_nil (P := Try.prog) w 30 21 a n c n' c' Try.underlying30
  go_enter Try.func44, Try.ntmps44
  go_wp2_with (first | (at_builtin; refine wpList_append_own_at _ rfl _ _ 30 rfl w.heap.size 21 i0 (.int .i32 0) 1 4 Try.underlying30 hi hz0 hz1 hz2 rfl (by decide) (.slice (some ⟨w.heap.size, 0, none⟩) 0 0) 0 [] rfl HC.out.1 ⟨g, 0, none⟩ n c xs rfl (by omega) HC.out.2 H1.out (by unfold maxLen; omega) (by omega) (by simp) ?_; intro v' w1 hown' hgrow hnil' hloc) | go_in)
  go_ret
  refine ⟨v', rfl, by simpa using hown', fun e => by have := hnil'.1 e; simp at this, ?_⟩
  have hb : Below w.heap.size w (w.alloc (.cells #[] 21)) := (Below.refl _ _).alloc (Nat.le_refl _) _
  exact hb.grown hgrow hb.size (fun j hj => by cases hj; exact Nat.le_refl _)
end Go.Proofs.Qxb6600550a.Rad
