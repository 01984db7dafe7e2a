import Derived.Test.Qxb6600550aD2
namespace Go.Proofs.Qxb6600550a.Rad
open Go.RowKit Go.Proofs.Qxb6600550a.Idx

theorem info68 : (Try.prog.info? 68).map (fun i => (i.zero, i.size, i.bytes)) = some (some (.agg #[.int .i32 0, .int .i32 0, .float .f64 0]), 3, 16) := by kernel_rfl
theorem info73 : (Try.prog.info? 73).map (fun i => (i.zero, i.size, i.bytes)) = some (some (.agg #[.int .i64 0, .slice none 0 0, .float .f64 0]), 3, 40) := by kernel_rfl
theorem size_made (cs : Array Value) (k : Nat) : (madeCells cs k).size = k := by simp [madeCells]
theorem make68 (n : Nat) (hn : n ≤ 1048576) : ∃ M : Array Value, (∀ w : World, (Instr.makeSlice 66 (.int .i64 (n : Int)) (.int .i64 (n : Int))).run Try.prog w = .ok (.slice (some ⟨w.heap.size, 0, none⟩) n n) (w.alloc (.cells M 68))) ∧
    ∀ w : World, Tri (w.alloc (.cells M 68)) w.heap.size n 68 [] := by
  obtain ⟨i0, hi, hz0, hz1, hz2⟩ := info_parts info68
  refine ⟨madeCells (Value.agg #[.int .i32 0, .int .i32 0, .float .f64 0]).cells (n * 3), fun w => ?_, fun w => ⟨⟨_, heap_alloc_new w _, size_made _ _, by simp⟩, by simp⟩⟩
  have h := run_make (P := Try.prog) w 66 68 i0 _ Try.underlying66 hi hz0 .i64 .i64 n n (by omega) (by omega) (by rw [hz2]; omega) (by omega)
  simpa [hz1] using h
theorem make73 (n : Nat) (hn : n ≤ 1048576) : ∃ M : Array Value, (∀ w : World, (Instr.makeSlice 44 (.int .i64 (n : Int)) (.int .i64 (n : Int))).run Try.prog w = .ok (.slice (some ⟨w.heap.size, 0, none⟩) n n) (w.alloc (.cells M 73))) ∧
    ∀ w : World, Tri (w.alloc (.cells M 73)) w.heap.size n 73 [] := by
  obtain ⟨i0, hi, hz0, hz1, hz2⟩ := info_parts info73
  refine ⟨madeCells (Value.agg #[.int .i64 0, .slice none 0 0, .float .f64 0]).cells (n * 3), fun w => ?_, fun w => ⟨⟨_, heap_alloc_new w _, size_made _ _, by simp⟩, by simp⟩⟩
  have h := run_make (P := Try.prog) w 44 73 i0 _ Try.underlying44 hi hz0 .i64 .i64 n n (by omega) (by omega) (by rw [hz2]; omega) (by omega)
  simpa [hz1] using h

def chv (c : Ch) : Value × Value × Value := (.int .i32 c.1, .int .i32 c.2.1, .float .f64 c.2.2)
def ctv (t : Ct) : Value × Value × Value := (.int .i64 t.g, .slice t.a t.l t.c, .float .f64 t.wt)

/-- A content whose characters lie in a new row of their own. -/
def NewCh (w : World) (G : Nat) (u : Ct) : Prop := u.chs.length = u.l ∧ (0 < u.l → ∃ h, u.a = some ⟨h, 0, none⟩ ∧ G < h ∧ Tri w h u.l 68 (u.chs.map chv))
theorem NewCh.of_heap {w w' : World} {G : Nat} {u : Ct} (h : NewCh w G u) (e : ∀ k, k < w.heap.size → G < k → w'.heap[k]? = w.heap[k]?) : NewCh w' G u := by
  refine ⟨h.1, fun h0 => ?_⟩
  obtain ⟨b, e1, e2, e3⟩ := h.2 h0
  exact ⟨b, e1, e2, e3.of_heap (e b e3.lt e2)⟩

/-- u is t with its group shifted. -/
structure Made (sh : Int) (t u : Ct) : Prop where
  g : u.g = if t.g = 0 then 0 else t.g + sh
  chs : u.chs = t.chs
  wt : u.wt = t.wt
  l : u.l = t.l

/-- The contents that are made. -/
structure OutSt (w wr : World) (n : Nat) (sh : Int) (ts us : List Ct) : Prop where
  row : Tri wr w.heap.size n 73 (us.map ctv)
  rel : ∀ (j : Nat) t u, ts[j]? = some t → us[j]? = some u → Made sh t u
  chs : ∀ u ∈ us, NewCh wr w.heap.size u
  bel : Below w.heap.size w wr
theorem OutSt.kept {w w1 wr : World} {n : Nat} {sh : Int} {ts us : List Ct} (h : OutSt w w1 n sh ts us) (hb : Below w1.heap.size w1 wr) : OutSt w wr n sh ts us :=
  ⟨h.row.of_heap (hb.block _ h.row.lt), h.rel, fun u hu => (h.chs u hu).of_heap (fun k hk _ => hb.block k hk), h.bel.trans (hb.mono h.bel.size)⟩
theorem OutSt.put {w wr : World} {n : Nat} {sh : Int} {ts us : List Ct} (h : OutSt w wr n sh ts us) (hn : us.length < n) {t u : Ct} (ht : ts[us.length]? = some t) (hm : Made sh t u) (hu : NewCh wr w.heap.size u) :
    OutSt w (put3 wr w.heap.size (us.length * 3) (.int .i64 u.g) (.slice u.a u.l u.c) (.float .f64 u.wt)) n sh ts (us ++ [u]) := by
  refine ⟨?_, fun j t' u' h1 h2 => ?_, fun x hx => ?_, Below.put3 h.bel (Nat.le_refl _) _ _ _ _⟩
  · have := h.row.put (by simpa using hn) (.int .i64 u.g) (.slice u.a u.l u.c) (.float .f64 u.wt)
    rw [List.map_append]
    simpa [ctv] using this
  · by_cases hj : j < us.length
    · rw [List.getElem?_append_left hj] at h2; exact h.rel j t' u' h1 h2
    · have hl : j < us.length + 1 := by have := (List.getElem?_eq_some_iff.1 h2).1; simpa using this
      obtain rfl : j = us.length := by omega
      simp at h2; subst h2
      rw [ht] at h1; cases h1; exact hm
  · refine NewCh.of_heap ?_ (fun k _ hk => put3_other _ _ _ _ _ _ _ (by omega))
    rcases List.mem_append.1 hx with hx | hx
    · exact h.chs x hx
    · simp at hx; subst hx; exact hu

/-- The characters that are made. -/
structure CharInv (w1 wr : World) (l : Nat) (chs : List Ch) (c : Nat) : Prop where
  row : Tri wr w1.heap.size l 68 ((chs.take c).map chv)
  bel : Below w1.heap.size w1 wr
theorem CharInv.step {w1 wr : World} {l : Nat} {chs : List Ch} {c : Nat} (h : CharInv w1 wr l chs c) (hl : chs.length = l) {r m : Int} {x : Nat} (hc : chs[c]? = some (r, m, x)) (o : Obj) (q : Nat) :
    CharInv w1 ((put3 (wr.alloc o) w1.heap.size (c * 3) (.int .i32 r) (.int .i32 m) (.float .f64 x)).drewN q) l chs (c + 1) := by
  have hcl : c < chs.length := (List.getElem?_eq_some_iff.1 hc).1
  have e : chs[c] = (r, m, x) := by rw [List.getElem?_eq_getElem hcl] at hc; exact Option.some.inj hc
  have hlen : ((chs.take c).map chv).length = c := by simp; omega
  have h1 := (h.row.of_heap (w' := wr.alloc o) (Below.heap_alloc _ _ _ h.row.lt)).put (by rw [hlen]; omega) (.int .i32 r) (.int .i32 m) (.float .f64 x)
  have h2 := Below.put3 (h.bel.alloc (by have := h.row.lt; omega) o) (Nat.le_refl w1.heap.size) (c * 3) (.int .i32 r) (.int .i32 m) (.float .f64 x)
  rw [hlen] at h1
  generalize put3 (wr.alloc o) w1.heap.size (c * 3) (.int .i32 r) (.int .i32 m) (.float .f64 x) = wy at h1 h2 ⊢
  refine ⟨?_, ⟨h2.os, h2.tape, h2.output, h2.size, h2.block⟩⟩
  rw [List.take_succ_eq_append_getElem hcl, List.map_append, e]
  exact h1.of_heap rfl
theorem CharInv.facts {w1 wr : World} {l : Nat} {chs : List Ch} {c : Nat} (h : CharInv w1 wr l chs c) (hc : c < l) : ∃ u0 u1 u2 : Value,
    (∀ o, (wr.alloc o).cell? ⟨w1.heap.size, c * 3, none⟩ = some u0) ∧ (∀ o, (wr.alloc o).cell? ⟨w1.heap.size, c * 3 + 1, none⟩ = some u1) ∧ (∀ o, (wr.alloc o).cell? ⟨w1.heap.size, c * 3 + 2, none⟩ = some u2) ∧ (∀ o i, (wr.alloc o).frozen? ⟨w1.heap.size, i, none⟩ = false) := by
  obtain ⟨u0, u1, u2, a, b, d, f⟩ := h.row.next hc
  have e : ∀ o i, (wr.alloc o).cell? ⟨w1.heap.size, i, none⟩ = wr.cell? ⟨w1.heap.size, i, none⟩ := fun o i => World.cell?_of_block (Below.heap_alloc _ _ _ h.row.lt)
  exact ⟨u0, u1, u2, fun o => (e o _).trans a, fun o => (e o _).trans b, fun o => (e o _).trans d, fun o i => (World.frozen?_of_block (Below.heap_alloc _ _ _ h.row.lt)).trans (f i)⟩
end Go.Proofs.Qxb6600550a.Rad
