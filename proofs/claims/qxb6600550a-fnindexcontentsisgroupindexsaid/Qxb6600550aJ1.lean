import Derived.Test.Qxb6600550aJ0
namespace Go.Proofs.Qxb6600550a.Idx

theorem sum_set_eq (l : List Int) : ∀ (i : Nat), i < l.length → (l.set i (l.getD i 0 + 1)).sum = l.sum + 1 := by
  induction l with
  | nil => intro i h; simp at h
  | cons a r ih =>
    intro i h
    cases i with
    | zero => simp; omega
    | succ i =>
      have := ih i (by simpa using h)
      simp only [List.set_cons_succ, List.getD_cons_succ, List.sum_cons]
      omega
/-- How many of the first contents bear a group. -/
def grp (us : List Ct) (j : Nat) : Nat := ((us.take j).filter (fun t => decide (t.g ≠ 0))).length
theorem grp_step (us : List Ct) (j : Nat) (t : Ct) (h : us[j]? = some t) : grp us (j + 1) = grp us j + if t.g ≠ 0 then 1 else 0 := by
  have hj := (List.getElem?_eq_some_iff.1 h).1
  have e : us[j] = t := by rw [List.getElem?_eq_getElem hj] at h; exact Option.some.inj h
  unfold grp
  rw [List.take_succ_eq_append_getElem hj, List.filter_append, List.length_append, e]
  by_cases h0 : t.g = 0
  · simp [h0]
  · simp [h0]
theorem grp_le (us : List Ct) (j : Nat) : grp us j ≤ j := by
  unfold grp
  have h1 := List.length_filter_le (fun t : Ct => decide (t.g ≠ 0)) (us.take j)
  have h2 : (us.take j).length ≤ j := by simp; omega
  omega
theorem sum_grp (us : List Ct) : ∀ j, j ≤ us.length → (ixOf (us.take j)).count.sum = (grp us j : Int) := by
  intro j
  induction j with
  | zero => intro _; simp [ixOf, Ix.none, grp]
  | succ j ih =>
    intro hj
    have ht : us[j]? = some us[j] := List.getElem?_eq_getElem (by omega)
    have hs := ixOf_take us j us[j] ht
    have o := ok_ixOf (us.take j)
    have ih := ih (by omega)
    rw [grp_step us j us[j] ht, hs]
    generalize us[j] = t at ht
    generalize ixOf (us.take j) = s at o ih
    unfold Ix.step
    by_cases h0 : t.g = 0
    · rw [if_pos h0, ih]; simp [h0]
    · rw [if_neg h0]
      by_cases hk : s.kindOf t.g < 0
      · rw [if_pos hk]
        have e : ((s.more t).bump t.g).count.sum = (s.count ++ [0]).sum + 1 := by
          have hkf : (s.more t).kindOf t.g = (s.kinds.length : Int) := by simp [Ix.more, upd]
          show ((s.count ++ [0]).set ((s.more t).kindOf t.g).toNat ((s.count ++ [0]).getD ((s.more t).kindOf t.g).toNat 0 + 1)).sum = _
          refine sum_set_eq (s.count ++ [0]) _ ?_
          rw [hkf, Int.toNat_natCast, ← o.len]; simp
        rw [e, List.sum_append, ih]
        simp [h0]
      · rw [if_neg hk]
        have e : (s.bump t.g).count.sum = s.count.sum + 1 := by
          refine sum_set_eq s.count _ ?_
          rcases o.rng t.g with h | ⟨h1, h2⟩
          · omega
          · rw [o.len]; omega
        rw [e, ih]
        simp [h0]
theorem first_grp (us : List Ct) : first (ixOf us).count (ixOf us).count.length = (grp us us.length : Int) := by
  have := sum_grp us us.length (Nat.le_refl _)
  rw [List.take_length] at this
  rw [first_all, this]

theorem cnt_take_le (kd : Int → Int) (us : List Ct) (j k : Nat) : cnt kd (us.take j) k ≤ cnt kd us k := by
  unfold cnt
  exact ((List.take_sublist _ _).filter _).length_le
theorem cnt_take_mono (kd : Int → Int) (us : List Ct) (i j k : Nat) (h : i ≤ j) : cnt kd (us.take i) k ≤ cnt kd (us.take j) k := by
  have e : us.take i = (us.take j).take i := by rw [List.take_take, Nat.min_eq_left h]
  rw [e]
  exact cnt_take_le kd (us.take j) i k
/-- The members of kind k, those among the first j contents. -/
theorem mem_at (us : List Ct) : ∀ j, j ≤ us.length → ∀ k, k < (ixOf us).kinds.length → ∀ q, q < cnt (ixOf us).kindOf (us.take j) k →
    ∃ (p : Nat) (t : Ct), (memAt (ixOf us).kindOf (ixOf us).count us j).1 ((first (ixOf us).count k).toNat + q) = p ∧ p < j ∧ us[p]? = some t ∧ t.g ≠ 0 ∧ (ixOf us).kindOf t.g = (k : Int) ∧ cnt (ixOf us).kindOf (us.take p) k = q := by
  have o := ok_ixOf us
  have hpos := count_pos us
  have hf0 : ∀ k, 0 ≤ first (ixOf us).count k := fun k => by
    have := first_mono (ixOf us).count hpos 0 k
    rwa [first_zero, Nat.zero_add] at this
  have hfs : ∀ k, k < (ixOf us).kinds.length → first (ixOf us).count (k + 1) = first (ixOf us).count k + cnt (ixOf us).kindOf us k := fun k hk => first_succ _ _ _ (o.num k hk)
  have hmo : ∀ a b, a ≤ b → first (ixOf us).count a ≤ first (ixOf us).count b := fun a b h => by
    have := first_mono (ixOf us).count hpos a (b - a)
    rwa [show a + (b - a) = b by omega] at this
  intro j
  induction j with
  | zero => intro _ k _ q hq; simp [cnt] at hq
  | succ j ih =>
    intro hj k hk q hq
    have hjl : j < us.length := by omega
    have ht : us[j]? = some us[j] := List.getElem?_eq_getElem hjl
    rw [List.take_succ_eq_append_getElem hjl, cnt_snoc] at hq
    generalize us[j] = t at ht hq
    have old : q < cnt (ixOf us).kindOf (us.take j) k → ∃ (p : Nat) (t : Ct), (memAt (ixOf us).kindOf (ixOf us).count us j).1 ((first (ixOf us).count k).toNat + q) = p ∧ p < j + 1 ∧ us[p]? = some t ∧ t.g ≠ 0 ∧ (ixOf us).kindOf t.g = (k : Int) ∧ cnt (ixOf us).kindOf (us.take p) k = q := fun h => by
      obtain ⟨p, t', e1, e2, e3⟩ := ih (by omega) k hk q h
      exact ⟨p, t', e1, by omega, e3⟩
    by_cases h0 : t.g = 0
    · rw [if_neg (by simp [h0])] at hq
      rw [memAt_skip _ _ _ _ _ ht h0]
      exact old (by omega)
    · obtain ⟨k', hk', hkl'⟩ : ∃ k' : Nat, (ixOf us).kindOf t.g = (k' : Int) ∧ k' < (ixOf us).kinds.length := by
        have h1 := o.seen t (List.mem_of_getElem? ht) h0
        obtain ⟨k', e⟩ := Int.eq_ofNat_of_zero_le h1
        refine ⟨k', e, ?_⟩
        rcases o.rng t.g with h | ⟨_, h⟩ <;> omega
      rw [memAt_step _ _ _ _ _ ht h0 k' hk', next_eq _ _ _ o.seen j (by omega) k']
      show ∃ (p : Nat) (t : Ct), updN _ _ _ _ = (p : Int) ∧ _
      unfold updN
      have hlt := cnt_mono (ixOf us).kindOf us j t ht h0 k' hk'
      have z1 := hf0 k
      have z2 := hf0 k'
      by_cases hkk : k = k'
      · subst hkk
        rw [if_pos ⟨h0, hk'⟩] at hq
        by_cases hqe : q = cnt (ixOf us).kindOf (us.take j) k
        · rw [if_pos (by omega)]
          exact ⟨j, t, rfl, by omega, ht, h0, hk', hqe.symm⟩
        · rw [if_neg (by omega)]
          exact old (by omega)
      · rw [if_neg (by rw [hk']; omega)] at hq
        have hq2 : q < cnt (ixOf us).kindOf us k := Nat.lt_of_lt_of_le (by omega) (cnt_take_le (ixOf us).kindOf us j k)
        rw [if_neg]
        · exact old (by omega)
        · intro e
          have a1 := hfs k hk
          have a2 := hfs k' hkl'
          rcases Nat.lt_or_gt_of_ne hkk with h | h
          · have := hmo (k + 1) k' h
            omega
          · have := hmo (k' + 1) k h
            omega
/-- Two members of a kind, in order. -/
theorem mem_lt (us : List Ct) (k p p' q q' : Nat) (h1 : cnt (ixOf us).kindOf (us.take p) k = q) (h2 : cnt (ixOf us).kindOf (us.take p') k = q') (h : q < q') : p < p' := by
  rcases Nat.lt_or_ge p p' with h' | h'
  · exact h'
  · have := cnt_take_mono (ixOf us).kindOf us p' p k h'
    omega
end Go.Proofs.Qxb6600550a.Idx
