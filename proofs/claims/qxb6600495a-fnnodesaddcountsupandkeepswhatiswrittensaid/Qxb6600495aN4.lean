import Derived.Test.Qxb6600495aN3
namespace Go.Proofs.Qxb6600495a.Nodes
open Go.RowKit

theorem zzadd_any (w : World) (B p n : Nat) (cs : List Chunk) (hn : n < 65536) (h : Store B w p n cs) (hok : Ok n cs) :
    Calls Try.prog 17 #[.pointer (some ⟨p, 0, none⟩)] w fun e w' => ∃ cs' c, e = .returned (.tuple #[.int .i32 n, .pointer (some ⟨c.g, n % 4096 * 7, none⟩)]) ∧
      Store B w' p (n + 1) cs' ∧ Below B w w' ∧ cs'[n / 4096]? = some c ∧ n % 4096 < c.L ∧ Step n cs cs' := by
  have H : Hid (Store B w p n cs) := h
  have HO : Hid (Ok n cs) := hok
  clear h hok
  go_enter Try.func17, Try.ntmps17
  go_wp2_with fail
  refine (add_any w B p n cs hn H.out HO.out).mono ?_
  rintro e w' ⟨cs', c, rfl, h1, h2, h3, h4, h5⟩
  have K : Hid (Store B w' p (n + 1) cs' ∧ Below B w w' ∧ cs'[n / 4096]? = some c ∧ n % 4096 < c.L ∧ Step n cs cs') := ⟨h1, h2, h3, h4, h5⟩
  clear h1 h2 h3 h4 h5
  go_wp2
  go_ret2
  exact ⟨cs', c, rfl, K.out⟩

theorem first_any (Z : Array Value) (w : World) (f : Nat) (hmk : ∀ w', (Instr.makeSlice 53 (.int .i64 f) (.int .i64 f)).run Try.prog w' = .ok (.slice (some ⟨w'.heap.size, 0, none⟩) f f) (w'.alloc (.cells Z 39))) :
    Calls Try.prog 25 #[.int .i64 f] w fun e w' => e = .returned (.pointer (some ⟨w.heap.size + 2, 0, none⟩)) ∧
      w' = ((w.alloc (.cells Z 39)).alloc (.cells #[.slice (some ⟨w.heap.size, 0, none⟩) f f] 53)).alloc (.cells #[.slice (some ⟨w.heap.size + 1, 0, none⟩) 1 1, .int .i32 0] 51) := by
  go_enter Try.func25, Try.ntmps25
  go_wp2
  go_ret
  exact ⟨rfl, rfl⟩

theorem start_zero (w : World) : Calls Try.prog 16 #[.int .i64 0] w fun e w' => e = .returned (.pointer (some ⟨w.heap.size, 0, none⟩)) ∧ w' = w.alloc (.cells #[.slice none 0 0, .int .i32 0] 51) := by
  go_enter Try.func16, Try.ntmps16
  go_wp2
  go_ret
  exact ⟨rfl, rfl⟩

theorem start_pos (Z : Array Value) (w : World) (f : Nat) (hf : 1 ≤ f) (hmk : ∀ w', (Instr.makeSlice 53 (.int .i64 f) (.int .i64 f)).run Try.prog w' = .ok (.slice (some ⟨w'.heap.size, 0, none⟩) f f) (w'.alloc (.cells Z 39))) :
    Calls Try.prog 16 #[.int .i64 f] w fun e w' => e = .returned (.pointer (some ⟨w.heap.size + 2, 0, none⟩)) ∧
      w' = ((w.alloc (.cells Z 39)).alloc (.cells #[.slice (some ⟨w.heap.size, 0, none⟩) f f] 53)).alloc (.cells #[.slice (some ⟨w.heap.size + 1, 0, none⟩) 1 1, .int .i32 0] 51) := by
  have t : ((f : Int) == 0) = false := by simp; omega
  go_enter Try.func16, Try.ntmps16
  go_wp2_with fail
  refine (first_any Z w f hmk).mono ?_
  rintro e w' ⟨rfl, rfl⟩
  go_wp2
  go_ret
  exact ⟨rfl, rfl⟩

/-- The chunks at the start. -/
def cks0 (f : Nat) (g : Nat) : List Chunk := if f = 0 then [] else [⟨g, f, zs f⟩]

theorem start_any (w : World) (f : Nat) (hf : f ≤ 4096) :
    Calls Try.prog 16 #[.int .i64 f] w fun e w' => ∃ p, e = .returned (.pointer (some ⟨p, 0, none⟩)) ∧ Store w.heap.size w' p 0 (cks0 f w.heap.size) ∧ Below w.heap.size w w' := by
  by_cases h0 : f = 0
  · subst h0
    refine (start_zero w).mono ?_
    rintro e w' ⟨rfl, rfl⟩
    refine ⟨_, rfl, ⟨.slice none 0 0, Nat.le_refl _, heap_alloc_new w _, ?_, by simp [cks0], by simp [cks0]⟩, (Below.refl _ _).alloc (Nat.le_refl _) _⟩
    exact World.ownsRow_nil _ _ _ _
  · refine (start_pos (zs f) w f (by omega) (fun w' => make_run w' .i64 f (by omega))).mono ?_
    rintro e w' ⟨rfl, rfl⟩
    have s1 : (w.alloc (.cells (zs f) 39)).heap.size = w.heap.size + 1 := by simp
    have s2 : ((w.alloc (.cells (zs f) 39)).alloc (.cells #[.slice (some ⟨w.heap.size, 0, none⟩) f f] 53)).heap.size = w.heap.size + 2 := by simp
    refine ⟨_, rfl, ⟨.slice (some ⟨w.heap.size + 1, 0, none⟩) 1 1, by omega, ?_, ?_, ?_, by simp [cks0, h0]⟩, ?_⟩
    · have := heap_alloc_new ((w.alloc (.cells (zs f) 39)).alloc (.cells #[.slice (some ⟨w.heap.size, 0, none⟩) f f] 53)) (.cells #[.slice (some ⟨w.heap.size + 1, 0, none⟩) 1 1, .int .i32 0] 51)
      rw [s2] at this
      exact this
    · have h := World.ownsRow_lit (base := w.heap.size) (e := 53) (size := 1) (w.alloc (.cells (zs f) 39)) #[.slice (some ⟨w.heap.size, 0, none⟩) f f] 1 (by rw [s1]; omega) (by decide) rfl
      rw [s1] at h
      have h := h.alloc (.cells #[.slice (some ⟨w.heap.size + 1, 0, none⟩) 1 1, .int .i32 0] 51)
      simpa [cks0, h0, Chunk.val] using h
    · intro c hc
      simp [cks0, h0] at hc
      subst hc
      refine ⟨Nat.le_refl _, ?_, size_zs f, one_zs f⟩
      rw [Below.heap_alloc _ _ _ (by rw [s2]; simp), Below.heap_alloc _ _ _ (by rw [s1]; simp)]
      exact heap_alloc_new w _
    · exact (((Below.refl _ _).alloc (Nat.le_refl _) _).alloc (by rw [s1]; omega) _).alloc (by rw [s2]; omega) _

theorem count_any (w : World) (B p n : Nat) (cs : List Chunk) (h : Store B w p n cs) :
    Calls Try.prog 22 #[.pointer (some ⟨p, 0, none⟩)] w fun e w' => e = .returned (.int .i64 cs.length) ∧ w' = w := by
  obtain ⟨v, h1, h2, h3, h4, h5⟩ := h
  obtain ⟨ao, cap, rfl⟩ : ∃ ao cap, v = .slice ao cs.length cap := by
    rcases h3.2 with ⟨h, h'⟩ | ⟨g, cap, cur, h, _⟩
    · exact ⟨none, 0, by rw [h, h']⟩
    · exact ⟨_, cap, h⟩
  have c0 : w.cell? ⟨p, 0, none⟩ = some (.slice ao cs.length cap) := cell_of_row w p 0 _ 51 (0, 0) h2
  clear h1 h2 h3 h4 h5
  go_enter Try.func22, Try.ntmps22
  go_wp2
  go_ret
  exact ⟨rfl, rfl⟩

theorem len_any (w : World) (B p n k : Nat) (cs : List Chunk) (c : Chunk) (h : Store B w p n cs) (hk : cs[k]? = some c) :
    Calls Try.prog 23 #[.pointer (some ⟨p, 0, none⟩), .int .i64 k] w fun e w' => e = .returned (.int .i64 c.L) ∧ w' = w := by
  obtain ⟨v, h1, h2, h3, h4, h5⟩ := h
  have hlt : k < cs.length := (List.getElem?_eq_some_iff.1 hk).1
  obtain ⟨b, cap, rfl, hBb, hblt⟩ := h3.form (by omega)
  have c0 : w.cell? ⟨p, 0, none⟩ = some (.slice (some ⟨b, 0, none⟩) cs.length cap) := cell_of_row w p 0 _ 51 (0, 0) h2
  have cg : w.cell? ⟨b, k, none⟩ = some (.slice (some ⟨c.g, 0, none⟩) c.L c.L) := by
    rw [h3.cellAt k (by omega), List.getElem?_map, hk]; rfl
  clear h1 h2 h3 h4 h5
  go_enter Try.func23, Try.ntmps23
  go_wp2
  go_ret
  exact ⟨rfl, rfl⟩
end Go.Proofs.Qxb6600495a.Nodes
