import Derived.Test.Qxb6600550aD5
import Derived.Deep.AppendLies
namespace Go.Proofs.Qxb6600550a.Rad
open Go.RowKit Go.Proofs.Qxb6600550a.Idx

/-! Rows that the call owns, by their element types. -/
def Ty (w : World) (k : Nat) (e : TypeId) : Prop := ∃ cur fr, w.heap[k]? = some (.cells cur e fr)
def Mp (w : World) (k : Nat) : Prop := ∃ es cl, w.heap[k]? = some (.map es cl)
theorem Ty.ne {w : World} {k k' : Nat} {e e' : TypeId} (h : Ty w k e) (h' : Ty w k' e') (hne : e ≠ e') : k ≠ k' := by
  rintro rfl
  obtain ⟨c, f, h1⟩ := h
  obtain ⟨c', f', h2⟩ := h'
  rw [h1] at h2
  cases h2
  exact hne rfl
theorem Ty.ne_map {w : World} {k k' : Nat} {e : TypeId} (h : Ty w k e) (h' : Mp w k') : k ≠ k' := by
  rintro rfl
  obtain ⟨c, f, h1⟩ := h
  obtain ⟨c', f', h2⟩ := h'
  rw [h1] at h2
  cases h2
theorem Ty.lt {w : World} {k : Nat} {e : TypeId} (h : Ty w k e) : k < w.heap.size := by
  obtain ⟨c, f, h1⟩ := h
  exact (Array.getElem?_eq_some_iff.1 h1).1
theorem own_ty {w : World} {base : Nat} {e : TypeId} {size : Nat} {v : Value} {n : Nat} {xs : List Value} (h : w.ownsRow base e size v n xs) {g : Nat} (hg : v.ownBlock = some g) : Ty w g e := by
  rcases h.2 with ⟨rfl, _⟩ | ⟨g', cap, cur, rfl, _, hgg, _⟩
  · simp [Value.ownBlock] at hg
  · simp [Value.ownBlock] at hg
    subst hg
    exact ⟨_, _, hgg⟩
theorem own_of {w w' : World} {base : Nat} {e : TypeId} {size : Nat} {v : Value} {n : Nat} {xs : List Value} (h : w.ownsRow base e size v n xs) (hh : ∀ g, v.ownBlock = some g → w'.heap[g]? = w.heap[g]?) : w'.ownsRow base e size v n xs := by
  refine ⟨h.1, ?_⟩
  rcases h.2 with hn | ⟨g', cap, cur, rfl, h1, hgg, h2⟩
  · exact .inl hn
  · exact .inr ⟨g', cap, cur, rfl, h1, (hh g' rfl).trans hgg, h2⟩
theorem own_shape {w : World} {base : Nat} {e : TypeId} {size : Nat} {v : Value} {n : Nat} {xs : List Value} (h : w.ownsRow base e size v n xs) : ∃ a c, v = .slice a n c := by
  rcases h.2 with ⟨rfl, rfl⟩ | ⟨g', cap, cur, rfl, _⟩
  · exact ⟨none, 0, rfl⟩
  · exact ⟨_, _, rfl⟩
theorem own_cell {w : World} {base : Nat} {e : TypeId} {size : Nat} {v : Value} {n : Nat} {xs : List Value} (h : w.ownsRow base e size v n xs) {i : Nat} (hi : i < xs.length) :
    ∃ g cap, v = .slice (some ⟨g, 0, none⟩) n cap ∧ base ≤ g ∧ Ty w g e ∧ (∀ j u, xs[j]? = some u → w.cell? ⟨g, j, none⟩ = some u) ∧ (∀ j, w.frozen? ⟨g, j, none⟩ = false) ∧
      ∀ j u, j < xs.length → (w.setCell ⟨g, j, none⟩ u).ownsRow base e size v n (xs.set j u) := by
  rcases h.2 with ⟨rfl, rfl⟩ | ⟨g, cap, cur, rfl, hb, hgg, h1, h2, h3, h4⟩
  · have := h.1; simp at this; subst this; simp at hi
  · have key : ∀ j, j < xs.length → cur[j]? = xs[j]? := fun j hj => by
      rw [← h4] at hj ⊢
      rw [List.getElem?_take]
      have hj1 : j < n * size := by have := List.length_take_le (n * size) cur.toList; omega
      rw [if_pos hj1, Array.getElem?_toList]
    refine ⟨g, cap, rfl, hb, ⟨_, _, hgg⟩, fun j u hj => ?_, fun j => frozen_of_row w g j cur e hgg, fun j u hj => ?_⟩
    · have hl := (List.getElem?_eq_some_iff.1 hj).1
      rw [cell_of_row w g j cur e (0, 0) hgg, key j hl]; exact hj
    · refine ⟨by rw [List.length_set]; exact h.1, .inr ⟨g, cap, _, rfl, hb, heap_setCell_same w g j cur e u hgg, h1, h2, by simp [h3], ?_⟩⟩
      apply List.ext_getElem?
      intro q
      have hlen : (cur.toList.take (n * size)).length = xs.length := by rw [h4]
      by_cases hq : q < xs.length
      · have hq' : q < n * size := by rw [← h.1]; exact hq
        have hqc : q < cur.size := by simp at hlen; omega
        rw [List.getElem?_take, if_pos hq', Array.getElem?_toList]
        by_cases he : j = q
        · subst he
          rw [Array.getElem?_setIfInBounds_self_of_lt hqc, List.getElem?_set_self hq]
        · rw [Array.getElem?_setIfInBounds_ne he, List.getElem?_set_ne he, key q hq]
      · rw [List.getElem?_eq_none (by have := h.1; simp; omega), List.getElem?_eq_none (by simp; omega)]

def tcells (t : Ct) : List Value := [.int .i64 t.g, .slice t.a t.l t.c, .float .f64 t.wt]
def kcells (ks : List Ct) : List Value := ks.flatMap tcells
def hcell (p : Int × Int) : List Value := [.int .i32 p.1, .int .i32 p.2]
def hcells (h : List (Int × Int)) : List Value := h.flatMap hcell
theorem kcells_len (ks : List Ct) : (kcells ks).length = ks.length * 3 := by
  unfold kcells
  induction ks with
  | nil => rfl
  | cons t r ih => simp [tcells, ih]; omega
theorem kcells_snoc (ks : List Ct) (t : Ct) : kcells (ks ++ [t]) = kcells ks ++ tcells t := by simp [kcells]
theorem hcells_snoc (h : List (Int × Int)) (p : Int × Int) : hcells (h ++ [p]) = hcells h ++ hcell p := by simp [hcells]
theorem hcells_len (h : List (Int × Int)) : (hcells h).length = h.length * 2 := by
  unfold hcells
  induction h with
  | nil => rfl
  | cons t r ih => simp [hcell, ih]; omega
theorem kcells_at (ks : List Ct) : ∀ (k : Nat) (t : Ct), ks[k]? = some t → (kcells ks)[k * 3]? = some (.int .i64 t.g) ∧ (kcells ks)[k * 3 + 1]? = some (.slice t.a t.l t.c) ∧ (kcells ks)[k * 3 + 2]? = some (.float .f64 t.wt) := by
  induction ks with
  | nil => intro k t h; simp at h
  | cons y r ih =>
    intro k t h
    have e : kcells (y :: r) = tcells y ++ kcells r := by simp [kcells]
    rw [e]
    cases k with
    | zero => simp at h; subst h; simp [tcells]
    | succ k =>
      simp at h
      obtain ⟨a, b, c⟩ := ih k t h
      have hl : (tcells y).length = 3 := rfl
      refine ⟨?_, ?_, ?_⟩
      · rw [List.getElem?_append_right (by omega), hl, show (k + 1) * 3 - 3 = k * 3 by omega]; exact a
      · rw [List.getElem?_append_right (by omega), hl, show (k + 1) * 3 + 1 - 3 = k * 3 + 1 by omega]; exact b
      · rw [List.getElem?_append_right (by omega), hl, show (k + 1) * 3 + 2 - 3 = k * 3 + 2 by omega]; exact c
theorem hcells_at (h : List (Int × Int)) : ∀ (k : Nat) (p : Int × Int), h[k]? = some p → (hcells h)[k * 2]? = some (.int .i32 p.1) ∧ (hcells h)[k * 2 + 1]? = some (.int .i32 p.2) := by
  induction h with
  | nil => intro k t h; simp at h
  | cons y r ih =>
    intro k t h
    have e : hcells (y :: r) = hcell y ++ hcells r := by simp [hcells]
    rw [e]
    cases k with
    | zero => simp at h; subst h; simp [hcell]
    | succ k =>
      simp at h
      obtain ⟨a, b⟩ := ih k t h
      have hl : (hcell y).length = 2 := rfl
      refine ⟨?_, ?_⟩
      · rw [List.getElem?_append_right (by omega), hl, show (k + 1) * 2 - 2 = k * 2 by omega]; exact a
      · rw [List.getElem?_append_right (by omega), hl, show (k + 1) * 2 + 1 - 2 = k * 2 + 1 by omega]; exact b

/-- The map of holdings. -/
structure HMap (base : Nat) (w : World) (hm : Nat) (hd : Hd) (F : Int → Option Value) : Prop where
  map : IMap w hm .i32 F hd.n
  none : ∀ r, hd.h r = [] → F r = none
  row : ∀ r, hd.h r ≠ [] → ∃ v, F r = some v ∧ w.ownsRow base 86 2 v (hd.h r).length (hcells (hd.h r))
  part : ∀ r r' v v' g, F r = some v → F r' = some v' → v.ownBlock = some g → v'.ownBlock = some g → r = r'
theorem IMap.mp {w : World} {b : Nat} {q : IntKind} {f : Int → Option Value} {n : Nat} (h : IMap w b q f n) : Mp w b := by
  obtain ⟨es, cl, h1, _⟩ := h
  exact ⟨_, _, h1⟩
theorem HMap.of {base : Nat} {w w' : World} {hm : Nat} {hd : Hd} {F : Int → Option Value} (h : HMap base w hm hd F) (e1 : w'.heap[hm]? = w.heap[hm]?) (e2 : ∀ k, Ty w k 86 → w'.heap[k]? = w.heap[k]?) : HMap base w' hm hd F := by
  refine ⟨h.map.of_heap e1, h.none, fun r hr => ?_, h.part⟩
  obtain ⟨v, h1, h2⟩ := h.row r hr
  exact ⟨v, h1, own_of h2 (fun g hg => e2 g (own_ty h2 hg))⟩
/-- The row of a rune as it stands. -/
theorem HMap.cur {base : Nat} {w : World} {hm : Nat} {hd : Hd} {F : Int → Option Value} (h : HMap base w hm hd F) (r : Int) : w.ownsRow base 86 2 ((F r).getD (.slice .none 0 0)) (hd.h r).length (hcells (hd.h r)) := by
  by_cases hr : hd.h r = []
  · rw [h.none r hr, hr]; exact World.ownsRow_nil _ _ _ _
  · obtain ⟨v, h1, h2⟩ := h.row r hr
    rw [h1]; exact h2
theorem HMap.step {base : Nat} {w w1 : World} {hm : Nat} {hd : Hd} {F : Int → Option Value} (h : HMap base w hm hd F) {P : Program} {t kt et : TypeId} (ht : P.underlying t = some (.map kt et)) (hk : P.underlying kt = some (.int .i32)) (k : Int) (c : Ch)
    {g cap : Nat} (hown : w1.ownsRow base 86 2 (.slice (some ⟨g, 0, .none⟩) ((hd.h c.1).length + 1) cap) ((hd.h c.1).length + 1) (hcells (hd.h c.1) ++ hcell (k, c.2.1)))
    (hg : w.grownBy w1 ((F c.1).getD (.slice .none 0 0)).ownBlock) (hat : ((F c.1).getD (.slice .none 0 0)).ownBlock = some g ∨ w.heap.size ≤ g) :
    ∃ w2, (Instr.mapUpdate t (.map (some hm)) (.int .i32 c.1) (.slice (some ⟨g, 0, .none⟩) ((hd.h c.1).length + 1) cap)).run P w1 = .ok () w2 ∧ (∃ F', HMap base w2 hm (hd.step k c) F') ∧ But hm w1 w2 := by
  have hrow : ∀ b, ((F c.1).getD (.slice .none 0 0)).ownBlock = some b → Ty w b 86 := fun b hb => own_ty (h.cur c.1) hb
  have hm1 : w1.heap[hm]? = w.heap[hm]? := hg.block hm h.map.lt (fun e => ((hrow hm e.symm).ne_map h.map.mp) rfl)
  obtain ⟨w2, h1, h2, h3⟩ := (h.map.of_heap hm1).store ht hk c.1 (.slice (some ⟨g, 0, .none⟩) ((hd.h c.1).length + 1) cap)
  have hmm : Mp w1 hm := (h.map.of_heap hm1).mp
  have hown2 : w2.ownsRow base 86 2 (.slice (some ⟨g, 0, .none⟩) ((hd.h c.1).length + 1) cap) ((hd.h c.1).length + 1) (hcells (hd.h c.1) ++ hcell (k, c.2.1)) :=
    own_of hown (fun b hb => h3.block b ((own_ty hown hb).ne_map hmm))
  have hoth : ∀ r, r ≠ c.1 → ∀ v, F r = some v → ∀ n xs, w.ownsRow base 86 2 v n xs → w2.ownsRow base 86 2 v n xs := by
    intro r hr v hv n xs ho
    have ho1 : w1.ownsRow base 86 2 v n xs := own_of ho (fun b hb => hg.block b (own_ty ho hb).lt (fun e => by
      cases hF : F c.1 with
      | none => rw [hF] at e; simp [Value.ownBlock] at e
      | some u =>
        rw [hF] at e
        exact hr (h.part r c.1 v u b hv hF hb e.symm)))
    exact own_of ho1 (fun b hb => h3.block b ((own_ty ho1 hb).ne_map hmm))
  refine ⟨w2, h1, ⟨fun a => if a = c.1 then some (.slice (some ⟨g, 0, .none⟩) ((hd.h c.1).length + 1) cap) else F a, ⟨?_, ?_, ?_, ?_⟩⟩, h3⟩
  · have hn : (if (F c.1).isSome then hd.n else hd.n + 1) = (hd.step k c).n := by
      show _ = (if hd.h c.1 = [] then hd.n + 1 else hd.n)
      by_cases hr : hd.h c.1 = []
      · rw [if_pos hr, h.none _ hr]; rfl
      · obtain ⟨v, e, _⟩ := h.row _ hr
        rw [if_neg hr, e]; rfl
    rw [← hn]; exact h2
  · intro r hr
    have hr : (if r = c.1 then hd.h c.1 ++ [(k, c.2.1)] else hd.h r) = [] := hr
    by_cases he : r = c.1
    · rw [if_pos he] at hr; simp at hr
    · rw [if_neg he] at hr
      show (if r = c.1 then _ else F r) = .none
      rw [if_neg he]; exact h.none r hr
  · intro r hr
    show ∃ v, (if r = c.1 then _ else F r) = some v ∧ w2.ownsRow base 86 2 v (if r = c.1 then hd.h c.1 ++ [(k, c.2.1)] else hd.h r).length (hcells (if r = c.1 then hd.h c.1 ++ [(k, c.2.1)] else hd.h r))
    have hr : (if r = c.1 then hd.h c.1 ++ [(k, c.2.1)] else hd.h r) ≠ [] := hr
    by_cases he : r = c.1
    · simp only [if_pos he]
      exact ⟨_, rfl, by rw [hcells_snoc]; simpa using hown2⟩
    · simp only [if_neg he] at hr ⊢
      obtain ⟨v, e, ho⟩ := h.row r hr
      exact ⟨v, e, hoth r he v e _ _ ho⟩
  · have key : ∀ r, r ≠ c.1 → ∀ v, F r = some v → v.ownBlock = some g → False := by
      intro r hr v hv hb
      rcases hat with e | e
      · cases hF : F c.1 with
        | none => rw [hF] at e; simp [Value.ownBlock] at e
        | some u => rw [hF] at e; exact hr (h.part r c.1 v u g hv hF hb e)
      · have hne : hd.h r ≠ [] := fun e0 => by rw [h.none r e0] at hv; cases hv
        obtain ⟨v', e', ho⟩ := h.row r hne
        rw [hv] at e'; cases e'
        have := (own_ty ho hb).lt
        omega
    intro r r' v v' b hv hv' hb hb'
    have hv : (if r = c.1 then some (Value.slice (some ⟨g, 0, .none⟩) ((hd.h c.1).length + 1) cap) else F r) = some v := hv
    have hv' : (if r' = c.1 then some (Value.slice (some ⟨g, 0, .none⟩) ((hd.h c.1).length + 1) cap) else F r') = some v' := hv'
    by_cases he : r = c.1 <;> by_cases he' : r' = c.1
    · rw [he, he']
    · rw [if_pos he] at hv
      rw [if_neg he'] at hv'
      cases hv
      have hgb : g = b := by simpa [Value.ownBlock] using hb
      subst hgb
      exact (key r' he' v' hv' hb').elim
    · rw [if_neg he] at hv
      rw [if_pos he'] at hv'
      cases hv'
      have hgb : g = b := by simpa [Value.ownBlock] using hb'
      subst hgb
      exact (key r he v hv hb).elim
    · rw [if_neg he] at hv
      rw [if_neg he'] at hv'
      exact h.part r r' v v' b hv hv' hb hb'
end Go.Proofs.Qxb6600550a.Rad
