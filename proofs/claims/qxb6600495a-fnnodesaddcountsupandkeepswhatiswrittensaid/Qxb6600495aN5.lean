import Derived.Test.Qxb6600495aN4
namespace Go.Proofs.Qxb6600495a.Nodes
open Go.RowKit

def InvL (f n : Nat) (Ls : List Nat) : Prop :=
  ((f = 0 ∧ Ls.length = (n + 4095) / 4096) ∨ (0 < f ∧ n = 0 ∧ Ls.length = 1) ∨ (0 < f ∧ 0 < n ∧ Ls.length = (n + 4095) / 4096)) ∧
  (∀ i, i + 1 < Ls.length → Ls[i]? = some 4096) ∧
  (∀ l, Ls[Ls.length - 1]? = some l → ((f = 0 ∨ 1 < Ls.length) → l = 4096) ∧ ((0 < f ∧ Ls.length = 1) → n ≤ l ∧ f ≤ l ∧ l ≤ 4096 ∧ (l = f ∨ l < 2 * n)))

def StepL (n : Nat) (Ls Ls' : List Nat) : Prop :=
  (n / 4096 = Ls.length ∧ Ls' = Ls ++ [4096]) ∨ (∃ l, Ls[n / 4096]? = some l ∧ n % 4096 < l ∧ Ls' = Ls) ∨
  (∃ l, Ls[n / 4096]? = some l ∧ n % 4096 = l ∧ Ls' = Ls.set (n / 4096) (min (2 * l) 4096))

theorem invL_start (f : Nat) (hf : f ≤ 4096) (Ls : List Nat) (h : Ls = if f = 0 then [] else [f]) : InvL f 0 Ls := by
  by_cases h0 : f = 0
  · subst h0; simp at h; subst h
    refine ⟨.inl ⟨rfl, rfl⟩, by simp, by simp⟩
  · rw [if_neg h0] at h; subst h
    refine ⟨.inr (.inl ⟨by omega, rfl, rfl⟩), by simp, ?_⟩
    intro l hl
    simp at hl
    subst hl
    refine ⟨by simp; omega, fun _ => ⟨by omega, by omega, hf, .inl rfl⟩⟩

theorem invL_step (f n : Nat) (Ls Ls' : List Nat) (h : InvL f n Ls) (hs : StepL n Ls Ls') : InvL f (n + 1) Ls' := by
  obtain ⟨h1, h2, h3⟩ := h
  rcases hs with ⟨hn, rfl⟩ | ⟨l, hl, hlt, rfl⟩ | ⟨l, hl, hle, rfl⟩
  · have hlen : (Ls ++ [4096]).length = Ls.length + 1 := by simp
    refine ⟨by rw [hlen]; omega, ?_, ?_⟩
    · intro i hi
      rw [hlen] at hi
      rw [List.getElem?_append_left (by omega)]
      by_cases hi' : i + 1 < Ls.length
      · exact h2 i hi'
      · have hi2 : i = Ls.length - 1 := by omega
        have hne : i < Ls.length := by omega
        have hx := h3 Ls[i] (by rw [← hi2]; exact List.getElem?_eq_getElem hne)
        rw [List.getElem?_eq_getElem hne]
        congr 1
        by_cases hc : f = 0 ∨ 1 < Ls.length
        · exact hx.1 hc
        · have := hx.2 (by omega); omega
    · intro l hl
      rw [hlen] at hl ⊢
      simp at hl
      subst hl
      exact ⟨fun _ => rfl, fun ⟨_, h5⟩ => by omega⟩
  · have hlt' : n / 4096 < Ls'.length := (List.getElem?_eq_some_iff.1 hl).1
    refine ⟨by omega, h2, ?_⟩
    intro l' hl'
    have := h3 l' hl'
    refine ⟨this.1, fun hc => ?_⟩
    have h5 := this.2 hc
    have : n / 4096 = Ls'.length - 1 := by omega
    rw [← this, hl] at hl'
    obtain rfl := Option.some.inj hl'
    refine ⟨by omega, by omega, by omega, by omega⟩
  · have hlt' : n / 4096 < Ls.length := (List.getElem?_eq_some_iff.1 hl).1
    have hlen : (Ls.set (n / 4096) (min (2 * l) 4096)).length = Ls.length := by simp
    have hlast : n / 4096 = Ls.length - 1 := by
      by_cases hi : n / 4096 + 1 < Ls.length
      · have := h2 _ hi; rw [hl] at this; have := Option.some.inj this; omega
      · omega
    have h4 := h3 l (by rw [← hlast]; exact hl)
    have hc : 0 < f ∧ Ls.length = 1 := by
      by_cases hc : f = 0 ∨ 1 < Ls.length
      · have := h4.1 hc; omega
      · omega
    have h5 := h4.2 hc
    refine ⟨by rw [hlen]; omega, ?_, ?_⟩
    · intro i hi; rw [hlen] at hi; omega
    · intro l' hl'
      rw [hlen, ← hlast, List.getElem?_set_self hlt'] at hl'
      obtain rfl := Option.some.inj hl'
      rw [hlen]
      exact ⟨fun hc' => by omega, fun _ => by omega⟩

theorem step_lens {n : Nat} {cs cs' : List Chunk} (h : Step n cs cs') : StepL n (cs.map Chunk.L) (cs'.map Chunk.L) := by
  rcases h with ⟨h1, g, rfl⟩ | ⟨c, h1, h2, rfl⟩ | ⟨c, g, h1, h2, rfl⟩
  · exact .inl ⟨by simpa using h1, by simp⟩
  · exact .inr (.inl ⟨c.L, by simp [h1], h2, rfl⟩)
  · exact .inr (.inr ⟨c.L, by simp [h1], h2, by simp [List.map_set]⟩)

theorem inv_ok {f n : Nat} {cs : List Chunk} (h : InvL f n (cs.map Chunk.L)) : Ok n cs := by
  obtain ⟨h1, h2, h3⟩ := h
  simp only [List.length_map] at h1 h2 h3
  by_cases hn : n / 4096 = cs.length
  · exact .inl hn
  · have hlt : n / 4096 < cs.length := by omega
    refine .inr ⟨cs[n / 4096], List.getElem?_eq_getElem hlt, ?_⟩
    by_cases hi : n / 4096 + 1 < cs.length
    · have := h2 _ hi
      simp [List.getElem?_eq_getElem hlt] at this
      omega
    · have h4 := h3 (cs[n / 4096]).L (by simp [← show n / 4096 = cs.length - 1 by omega, List.getElem?_eq_getElem hlt])
      by_cases hc : f = 0 ∨ 1 < cs.length
      · have := h4.1 hc; omega
      · have := h4.2 (by omega); omega
end Go.Proofs.Qxb6600495a.Nodes
