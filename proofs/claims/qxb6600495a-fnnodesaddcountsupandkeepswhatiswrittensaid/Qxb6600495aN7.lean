import Derived.Test.Qxb6600495aN6
namespace Go.Proofs.Qxb6600495a.Nodes
open Go.RowKit

/-- Cell r of a node that is all zero. -/
def zc (r : Nat) : Value := if r < 4 then .int .i32 0 else if r < 6 then .int .u8 0 else .int .u16 0
theorem zc_eq (r : Nat) (h : r < 7) : zN.cells[r]? = some (zc r) := by
  have h7 : r = 0 ∨ r = 1 ∨ r = 2 ∨ r = 3 ∨ r = 4 ∨ r = 5 ∨ r = 6 := by omega
  rcases h7 with h | h | h | h | h | h | h <;> (subst h; rfl)

/-- Cell q of chunk c when k nodes have been marked. -/
def mk (k c q : Nat) : Value := if q % 7 = 0 ∧ c * 4096 + q / 7 < k then .int .i32 ((c * 4096 + q / 7 + 1 : Nat) : Int) else zc (q % 7)

def Con (k : Nat) (cs : List Chunk) : Prop := ∀ (c : Nat) (ck : Chunk), cs[c]? = some ck → ∀ q, q < ck.L * 7 → ck.xs[q]? = some (mk k c q)

theorem mk_zero (k c q : Nat) (h : k ≤ c * 4096 + q / 7) : mk k c q = zc (q % 7) := by
  unfold mk; rw [if_neg (by omega)]

theorem con_start (f g : Nat) : Con 0 (cks0 f g) := by
  intro c ck hc q hq
  unfold cks0 at hc
  split at hc
  · simp at hc
  · cases c with
    | zero =>
      simp at hc
      subst hc
      show (zs f)[q]? = _
      rw [zs_at f q hq, zc_eq _ (by omega), mk_zero _ _ _ (by omega)]
    | succ c => simp at hc

/-- Every chunk lies in the store with its own cells, of the right number. -/
def Sized (cs : List Chunk) : Prop := ∀ c ∈ cs, c.xs.size = c.L * 7

theorem con_step {f k : Nat} {cs cs' : List Chunk} (hi : InvL f k (cs.map Chunk.L)) (hsz : Sized cs) (h : Con k cs) (hs : Step k cs cs') : Con k cs' := by
  rcases hs with ⟨hn, g, rfl⟩ | ⟨c, h1, h2, rfl⟩ | ⟨c0, g, h1, h2, rfl⟩
  · intro c ck hc q hq
    by_cases hlt : c < cs.length
    · rw [List.getElem?_append_left hlt] at hc
      exact h c ck hc q hq
    · rw [List.getElem?_append_right (by omega)] at hc
      have h0 : c - cs.length = 0 := by
        rcases Nat.eq_zero_or_pos (c - cs.length) with h0 | h0
        · exact h0
        · rw [List.getElem?_eq_none (by simp; omega)] at hc; simp at hc
      rw [h0] at hc
      simp at hc
      subst hc
      have hl := hi.1
      simp only [List.length_map] at hl
      show (zs 4096)[q]? = _
      rw [zs_at 4096 q hq, zc_eq _ (by omega), mk_zero _ _ _ (by omega)]
  · exact h
  · intro c ck hc q hq
    have hlt : k / 4096 < cs.length := (List.getElem?_eq_some_iff.1 h1).1
    by_cases he : c = k / 4096
    · subst he
      rw [List.getElem?_set_self hlt] at hc
      obtain rfl := Option.some.inj hc
      have hxs : c0.xs.size = c0.L * 7 := hsz c0 (List.mem_of_getElem? h1)
      by_cases hq' : q < c0.L * 7
      · rw [Array.getElem?_append_left (by omega)]
        exact h _ c0 h1 q hq'
      · have hq2 : q < min (2 * c0.L) 4096 * 7 := hq
        rw [Array.getElem?_append_right (by omega), hxs, Array.getElem?_extract, size_zs, if_pos (by omega), zs_at _ _ (by omega), show c0.L * 7 + (q - c0.L * 7) = q by omega, zc_eq _ (by omega), mk_zero _ _ _ (by omega)]
    · rw [List.getElem?_set_ne (by omega)] at hc
      exact h c ck hc q hq

/-- The mark is written. -/
theorem con_mark {k : Nat} {cs : List Chunk} {c0 : Chunk} (h : Con k cs) (h1 : cs[k / 4096]? = some c0) (h2 : k % 4096 < c0.L) (hL : ∀ c ∈ cs, c.L ≤ 4096) (hsz : Sized cs) :
    Con (k + 1) (cs.set (k / 4096) ⟨c0.g, c0.L, c0.xs.setIfInBounds (k % 4096 * 7) (.int .i32 ((k + 1 : Nat) : Int))⟩) := by
  have hlt : k / 4096 < cs.length := (List.getElem?_eq_some_iff.1 h1).1
  intro c ck hc q hq
  by_cases he : c = k / 4096
  · subst he
    rw [List.getElem?_set_self hlt] at hc
    obtain rfl := Option.some.inj hc
    have hxs : c0.xs.size = c0.L * 7 := hsz c0 (List.mem_of_getElem? h1)
    have hq' : q < c0.L * 7 := hq
    show (c0.xs.setIfInBounds (k % 4096 * 7) _)[q]? = _
    by_cases hqk : k % 4096 * 7 = q
    · subst hqk
      rw [Array.getElem?_setIfInBounds_self_of_lt (by omega)]
      unfold mk
      rw [if_pos (by omega)]
      congr 2
      omega
    · rw [Array.getElem?_setIfInBounds_ne hqk, h _ c0 h1 q hq']
      unfold mk
      have e : (q % 7 = 0 ∧ k / 4096 * 4096 + q / 7 < k) ↔ (q % 7 = 0 ∧ k / 4096 * 4096 + q / 7 < k + 1) := by omega
      simp only [e]
  · rw [List.getElem?_set_ne (by omega)] at hc
    rw [h c ck hc q hq]
    have hcL := hL ck (List.mem_of_getElem? hc)
    unfold mk
    have e : (q % 7 = 0 ∧ c * 4096 + q / 7 < k) ↔ (q % 7 = 0 ∧ c * 4096 + q / 7 < k + 1) := by omega
    simp only [e]

theorem inv_le {f k : Nat} {cs : List Chunk} (h : InvL f k (cs.map Chunk.L)) : ∀ c ∈ cs, c.L ≤ 4096 := by
  intro c hc
  obtain ⟨i, hi, rfl⟩ := List.mem_iff_getElem.1 hc
  by_cases hl : i + 1 < cs.length
  · obtain ⟨c', h1, h2⟩ := inv_mid h hl
    rw [List.getElem?_eq_getElem hi] at h1
    have := Option.some.inj h1
    rw [this]; omega
  · obtain ⟨c', h1, h2, h3⟩ := inv_last h (by omega)
    rw [show cs.length - 1 = i by omega, List.getElem?_eq_getElem hi] at h1
    have := Option.some.inj h1
    rw [this]
    by_cases hc : f = 0 ∨ 1 < cs.length
    · have := h2 hc; omega
    · have := h3 (by omega); omega

theorem Store.sized {B : Nat} {w : World} {p n : Nat} {cs : List Chunk} (h : Store B w p n cs) : Sized cs := by
  obtain ⟨v, h1, h2, h3, h4, h5⟩ := h
  exact fun c hc => (h4 c hc).2.2.1

theorem store_key {B : Nat} {w : World} {p n i o : Nat} {z : Int} {cs : List Chunk} {c : Chunk} (h : Store B w p n cs) (hc : cs[i]? = some c) :
    Store B (w.setCell ⟨c.g, o, none⟩ (.int .i32 z)) p n (cs.set i ⟨c.g, c.L, c.xs.setIfInBounds o (.int .i32 z)⟩) ∧ Below B w (w.setCell ⟨c.g, o, none⟩ (.int .i32 z)) := by
  obtain ⟨v, h1, h2, h3, h4, h5⟩ := h
  have hi : i < cs.length := (List.getElem?_eq_some_iff.1 hc).1
  have hm : c ∈ cs := List.mem_of_getElem? hc
  have ca := h4 c hm
  have hne := ca.ne h2 (by decide)
  refine ⟨⟨v, h1, ?_, ?_, ?_, ?_⟩, (Below.refl _ _).setCell ca.1 _⟩
  · rw [heap_setCell_other _ _ _ _ (fun e => hne e.symm)]; exact h2
  · have h6 := ownsRow_heap h3 (w' := w.setCell ⟨c.g, o, none⟩ (.int .i32 z)) (fun g hg => heap_setCell_other _ _ _ _ (fun e => by
      obtain ⟨cur, hh, _⟩ := owns_lt h3 hg
      exact ca.ne hh (by decide) e.symm))
    have e : (cs.set i ⟨c.g, c.L, c.xs.setIfInBounds o (.int .i32 z)⟩).map Chunk.val = cs.map Chunk.val := by
      rw [List.map_set]
      apply List.ext_getElem?
      intro j
      by_cases hj : i = j
      · subst hj
        rw [List.getElem?_set_self (by simpa using hi), List.getElem?_map, hc]
        rfl
      · rw [List.getElem?_set_ne hj]
    rw [e, List.length_set]
    exact h6
  · intro d hd
    obtain ⟨j, hj, rfl⟩ := List.mem_iff_getElem.1 hd
    rw [List.length_set] at hj
    by_cases hij : i = j
    · subst hij
      rw [List.getElem_set_self]
      refine ⟨ca.1, ?_, by simpa using ca.2.2.1, ?_⟩
      · exact heap_setCell_same w c.g o _ 39 _ ca.2.1
      · intro u hu
        rcases Array.mem_or_eq_of_mem_setIfInBounds hu with hu | rfl
        · exact ca.2.2.2 u hu
        · rfl
    · rw [List.getElem_set_ne hij]
      have da := h4 _ (List.getElem_mem hj)
      refine ⟨da.1, ?_, da.2.2⟩
      rw [heap_setCell_other _ _ _ _ ?_]
      · exact da.2.1
      · intro e
        have hcg : (cs.map Chunk.g)[i]? = some c.g := by simp [hc]
        have hdg : (cs.map Chunk.g)[j]? = some c.g := by simp [List.getElem?_eq_getElem hj]; exact e
        exact hij ((List.getElem?_inj (by simpa using hi) h5).1 (hcg.trans hdg.symm))
  · have e : (cs.set i ⟨c.g, c.L, c.xs.setIfInBounds o (.int .i32 z)⟩).map Chunk.g = cs.map Chunk.g := by
      rw [List.map_set]
      apply List.ext_getElem?
      intro j
      by_cases hj : i = j
      · subst hj
        rw [List.getElem?_set_self (by simpa using hi), List.getElem?_map, hc]
        rfl
      · rw [List.getElem?_set_ne hj]
    rw [e]
    exact h5
end Go.Proofs.Qxb6600495a.Nodes
