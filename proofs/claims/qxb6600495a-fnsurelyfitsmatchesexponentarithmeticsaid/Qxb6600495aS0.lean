/-
  The plain side of 'surelyFits': the decimal value of an exponent's digits, cut short in two ways. No Go in sight.
-/
namespace Go.Proofs.Qxb6600495a.Fits

/-- How many of zs are c. -/
def cnt (c : Int) (zs : List Int) : Nat := (zs.filter (· == c)).length
theorem cnt_le (c : Int) (zs : List Int) : cnt c zs ≤ zs.length := List.length_filter_le _ _
theorem cnt_snoc (c : Int) (zs : List Int) (x : Int) : cnt c (zs ++ [x]) = cnt c zs + if (x == c) = true then 1 else 0 := by
  unfold cnt
  rw [List.filter_append, List.length_append]
  by_cases h : (x == c) = true <;> simp [h]
theorem take_snoc (zs : List Int) (k : Nat) (h : k < zs.length) : zs.take (k + 1) = zs.take k ++ [zs.getD k 0] := by
  rw [List.take_succ_eq_append_getElem h, List.getD_eq_getElem?_getD, List.getElem?_eq_getElem h]; rfl
theorem drop_cons (zs : List Int) (k : Nat) (h : k < zs.length) : zs.drop k = zs.getD k 0 :: zs.drop (k + 1) := by
  rw [List.drop_eq_getElem_cons h, List.getD_eq_getElem?_getD, List.getElem?_eq_getElem h]; rfl

/-- 'exponentValue' from a state on: none: more than six significant digits. -/
def ev : List Int → Nat → Int → Option Int
  | [], _, v => some v
  | c :: r, s, v => if c < 48 ∨ 57 < c then ev r s v else if s = 0 ∧ c = 48 then ev r s v else if 6 < s + 1 then none else ev r (s + 1) (v * 10 + (c - 48))

theorem ev_skip {c : Int} {r : List Int} {s : Nat} {v : Int} (h : c < 48 ∨ 57 < c) : ev (c :: r) s v = ev r s v := by simp [ev, h]
theorem ev_zero {c : Int} {r : List Int} {v : Int} (h : c = 48) : ev (c :: r) 0 v = ev r 0 v := by simp [ev, h]
theorem ev_big {c : Int} {r : List Int} {s : Nat} {v : Int} (h1 : 48 ≤ c) (h2 : c ≤ 57) (h3 : ¬ (s = 0 ∧ c = 48)) (h4 : 6 < s + 1) : ev (c :: r) s v = none := by
  have : ¬ (c < 48 ∨ 57 < c) := by omega
  simp [ev, this, h3, h4]
theorem ev_dig {c : Int} {r : List Int} {s : Nat} {v : Int} (h1 : 48 ≤ c) (h2 : c ≤ 57) (h3 : ¬ (s = 0 ∧ c = 48)) (h4 : ¬ 6 < s + 1) : ev (c :: r) s v = ev r (s + 1) (v * 10 + (c - 48)) := by
  have : ¬ (c < 48 ∨ 57 < c) := by omega
  rw [ev, if_neg this, if_neg h3, if_neg h4]

/-- 'surelyFits''s e from a state on. -/
def ex : List Int → Int → Int
  | [], e => e
  | c :: r, e => ex r (if 48 ≤ c ∧ c ≤ 57 ∧ e < 10000 then e * 10 + (c - 48) else e)
theorem ex_yes {c : Int} {r : List Int} {e : Int} (h1 : 48 ≤ c) (h2 : c ≤ 57) (h3 : e < 10000) : ex (c :: r) e = ex r (e * 10 + (c - 48)) := by simp [ex, h1, h2, h3]
theorem ex_no {c : Int} {r : List Int} {e : Int} (h : ¬ (48 ≤ c ∧ c ≤ 57 ∧ e < 10000)) : ex (c :: r) e = ex r e := by rw [ex, if_neg h]

/-- How the two states hang together. -/
def J (s : Nat) (v e : Int) : Prop :=
  (s = 0 ∧ v = 0 ∧ e = 0) ∨ (s = 1 ∧ 1 ≤ v ∧ v ≤ 9 ∧ e = v) ∨ (s = 2 ∧ 10 ≤ v ∧ v ≤ 99 ∧ e = v) ∨ (s = 3 ∧ 100 ≤ v ∧ v ≤ 999 ∧ e = v) ∨ (s = 4 ∧ 1000 ≤ v ∧ v ≤ 9999 ∧ e = v) ∨
  (s = 5 ∧ 10000 ≤ v ∧ v ≤ 99999 ∧ e = v) ∨ (s = 6 ∧ 100000 ≤ v ∧ v ≤ 999999 ∧ 10000 ≤ e ∧ e ≤ 99999)

theorem ex_stays (zs : List Int) (e : Int) (h : 10000 ≤ e) : ex zs e = e := by
  induction zs with
  | nil => rfl
  | cons c r ih => rw [ex_no (by omega), ih]

/-- The two ends: both cut ('big', a value of at least a million; e of at least ten thousand); or the same value; or both great. -/
theorem ends (zs : List Int) : ∀ (s : Nat) (v e : Int), J s v e →
    match ev zs s v with
    | none => 10000 ≤ ex zs e ∧ ex zs e ≤ 99999
    | some x => 0 ≤ x ∧ x ≤ 999999 ∧ (ex zs e = x ∨ (100000 ≤ x ∧ 10000 ≤ ex zs e ∧ ex zs e ≤ 99999)) := by
  induction zs with
  | nil =>
    intro s v e h
    simp only [ev, ex]
    rcases h with h | h | h | h | h | h | h <;> omega
  | cons c r ih =>
    intro s v e h
    by_cases hd : c < 48 ∨ 57 < c
    · rw [ev_skip hd, ex_no (by omega)]; exact ih s v e h
    · by_cases hz : s = 0 ∧ c = 48
      · obtain ⟨rfl, rfl⟩ := hz
        rw [ev_zero rfl]
        have he : e = 0 := by rcases h with h | h | h | h | h | h | h <;> omega
        have hv : v = 0 := by rcases h with h | h | h | h | h | h | h <;> omega
        subst he hv
        rw [ex_yes (by omega) (by omega) (by omega)]
        exact ih 0 0 _ (.inl ⟨rfl, rfl, by omega⟩)
      · by_cases hb : 6 < s + 1
        · rw [ev_big (by omega) (by omega) hz hb]
          have he : 10000 ≤ e ∧ e ≤ 99999 := by rcases h with h | h | h | h | h | h | h <;> omega
          simp only [ex_stays (c :: r) e he.1]
          exact he
        · rw [ev_dig (by omega) (by omega) hz hb]
          by_cases he : e < 10000
          · rw [ex_yes (by omega) (by omega) he]
            refine ih _ _ _ ?_
            rcases h with h | h | h | h | h | h | h
            · exact .inr (.inl (by omega))
            · exact .inr (.inr (.inl (by omega)))
            · exact .inr (.inr (.inr (.inl (by omega))))
            · exact .inr (.inr (.inr (.inr (.inl (by omega)))))
            · exact .inr (.inr (.inr (.inr (.inr (.inl (by omega))))))
            · omega
            · omega
          · rw [ex_no (by omega)]
            refine ih _ _ _ ?_
            rcases h with h | h | h | h | h | h | h
            · omega
            · omega
            · omega
            · omega
            · omega
            · exact .inr (.inr (.inr (.inr (.inr (.inr (by omega))))))
            · omega

/-- The law. -/
theorem law (E : List Int) (D : Int) (hD : 0 ≤ D) (hD' : D ≤ 10000) :
    (decide (D + ex E 0 ≤ 308) = (match ev E 0 0 with | none => false | some x => decide (D + x ≤ 308))) ∧
    (decide (D + -ex E 0 ≤ 308) = (match ev E 0 0 with | none => true | some x => decide (D ≤ 308 + x))) := by
  have h := ends E 0 0 0 (.inl ⟨rfl, rfl, rfl⟩)
  cases hv : ev E 0 0 with
  | none =>
    rw [hv] at h
    simp only at h
    simp only [decide_eq_false_iff_not, decide_eq_true_eq]
    omega
  | some x =>
    rw [hv] at h
    simp only at h
    simp only [decide_eq_decide]
    omega

theorem ex_bounds (zs : List Int) : ∀ e : Int, 0 ≤ e → e ≤ 99999 → 0 ≤ ex zs e ∧ ex zs e ≤ 99999 := by
  induction zs with
  | nil => intro e h1 h2; exact ⟨h1, h2⟩
  | cons c r ih =>
    intro e h1 h2
    rw [ex]
    split
    · exact ih _ (by omega) (by omega)
    · exact ih _ h1 h2
end Go.Proofs.Qxb6600495a.Fits
