/-
  The plain side of 'ParseInt64': a decimal text read from the left and from the right. No Go in sight.
-/
namespace Go.Proofs.Qxb6604044a.Dec

/-- How many digits (bytes other than the point) and how many points. -/
def nd : List Int → Nat
  | [] => 0
  | c :: r => if c = 46 then nd r else nd r + 1
def np : List Int → Nat
  | [] => 0
  | c :: r => if c = 46 then np r + 1 else np r
theorem nd_np (l : List Int) : nd l + np l = l.length := by
  induction l with
  | nil => rfl
  | cons c r ih => by_cases h : c = 46 <;> simp [nd, np, h] <;> omega
/-- Digits and points alone. -/
def ok (l : List Int) : Prop := ∀ c ∈ l, c = 46 ∨ (48 ≤ c ∧ c ≤ 57)
/-- The number that the digits spell. -/
def dv : List Int → Int
  | [] => 0
  | c :: r => if c = 46 then dv r else (c - 48) * 10 ^ nd r + dv r
theorem nd_app (l m : List Int) : nd (l ++ m) = nd l + nd m := by
  induction l with
  | nil => simp [nd]
  | cons c r ih => by_cases h : c = 46 <;> simp [nd, h, ih] <;> omega
theorem np_app (l m : List Int) : np (l ++ m) = np l + np m := by
  induction l with
  | nil => simp [np]
  | cons c r ih => by_cases h : c = 46 <;> simp [np, h, ih] <;> omega
theorem dv_app (l m : List Int) : dv (l ++ m) = dv l * 10 ^ nd m + dv m := by
  induction l with
  | nil => simp [dv]
  | cons c r ih =>
    by_cases h : c = 46
    · simp [dv, h, ih]
    · simp only [List.cons_append, dv, h, if_false, ih, nd_app, Int.pow_add]
      rw [Int.add_mul, ← Int.mul_assoc]
      omega
theorem dv_snoc (l : List Int) (c : Int) (h : c ≠ 46) : dv (l ++ [c]) = dv l * 10 + (c - 48) := by
  rw [dv_app]; simp [dv, nd, h]
theorem dv_snoc_point (l : List Int) : dv (l ++ [46]) = dv l := by
  rw [dv_app]; simp [dv, nd]
theorem dv_bound (l : List Int) (h : ok l) : 0 ≤ dv l ∧ dv l < 10 ^ nd l := by
  induction l with
  | nil => simp [dv, nd]
  | cons c r ih =>
    have hr := ih (fun x hx => h x (by simp [hx]))
    by_cases hc : c = 46
    · simp [dv, nd, hc]; exact hr
    · have hcd := h c (by simp)
      have h2 : 48 ≤ c ∧ c ≤ 57 := by omega
      simp only [dv, nd, hc, if_false, Int.pow_succ]
      have hp : (0 : Int) < 10 ^ nd r := Int.pow_pos (by omega)
      have h3 : (c - 48) * 10 ^ nd r ≤ 9 * 10 ^ nd r := Int.mul_le_mul_of_nonneg_right (by omega) (by omega)
      have h4 : 0 ≤ (c - 48) * 10 ^ nd r := Int.mul_nonneg (by omega) (by omega)
      omega

/-- ParseInt64's scan from a state on: the point's place at its end; none: refused. -/
def sc : List Int → Nat → Int → Option Int
  | [], _, pt => some pt
  | c :: r, i, pt => if 48 ≤ c ∧ c ≤ 57 then sc r (i + 1) pt else if c = 46 ∧ pt < 0 then sc r (i + 1) (i : Int) else none
theorem sc_digit {c : Int} {r : List Int} {i : Nat} {pt : Int} (h : 48 ≤ c ∧ c ≤ 57) : sc (c :: r) i pt = sc r (i + 1) pt := by simp [sc, h]
theorem sc_point {r : List Int} {i : Nat} {pt : Int} (h : pt < 0) : sc (46 :: r) i pt = sc r (i + 1) (i : Int) := by simp [sc, h]
theorem sc_bad {c : Int} {r : List Int} {i : Nat} {pt : Int} (h : ¬ (48 ≤ c ∧ c ≤ 57)) (h2 : ¬ (c = 46 ∧ pt < 0)) : sc (c :: r) i pt = none := by rw [sc, if_neg h, if_neg h2]

/-- The first point's place. -/
def fp : List Int → Nat → Int → Int
  | [], _, f => f
  | c :: r, i, f => if c = 46 ∧ f < 0 then fp r (i + 1) (i : Int) else fp r (i + 1) f
theorem fp_set (l : List Int) : ∀ (i : Nat) (f : Int), 0 ≤ f → fp l i f = f := by
  induction l with
  | nil => intro i f _; rfl
  | cons c r ih => intro i f h; rw [fp, if_neg (by omega)]; exact ih _ _ h

theorem ok_cons {c : Int} {r : List Int} : ok (c :: r) ↔ (c = 46 ∨ (48 ≤ c ∧ c ≤ 57)) ∧ ok r := by simp [ok]

/-- What the scan comes to where it accepts. -/
theorem sc_some (l : List Int) : ∀ (i : Nat) (pt q : Int), sc l i pt = some q → ok l ∧ ((np l = 0 ∧ q = pt) ∨ (np l = 1 ∧ pt < 0 ∧ q = fp l i pt ∧ (i : Int) ≤ q ∧ q < (i : Int) + l.length)) := by
  induction l with
  | nil => intro i pt q h; simp [sc] at h; exact ⟨by simp [ok], .inl ⟨rfl, h.symm⟩⟩
  | cons c r ih =>
    intro i pt q h
    by_cases hd : 48 ≤ c ∧ c ≤ 57
    · rw [sc_digit hd] at h
      have hc : c ≠ 46 := by omega
      obtain ⟨h1, h2⟩ := ih _ _ _ h
      refine ⟨ok_cons.2 ⟨.inr hd, h1⟩, ?_⟩
      simp only [np, hc, if_false, List.length_cons]
      rcases h2 with h2 | ⟨a, b, d, e, f⟩
      · exact .inl h2
      · refine .inr ⟨a, b, ?_, by omega, by omega⟩
        rw [fp, if_neg (by omega)]; exact d
    · by_cases hp : c = 46 ∧ pt < 0
      · obtain ⟨rfl, hp⟩ := hp
        rw [sc_point hp] at h
        obtain ⟨h1, h2⟩ := ih _ _ _ h
        refine ⟨ok_cons.2 ⟨.inl rfl, h1⟩, ?_⟩
        rcases h2 with ⟨a, b⟩ | ⟨a, b, _⟩
        · refine .inr ⟨by simp [np, a], hp, ?_, by omega, by simp; omega⟩
          rw [fp, if_pos ⟨rfl, hp⟩, fp_set r (i + 1) (i : Int) (by omega)]; exact b
        · omega
      · rw [sc_bad hd hp] at h; cases h

theorem sc_none (l : List Int) : ∀ (i : Nat) (pt : Int), sc l i pt = none → ¬ (ok l ∧ (np l = 0 ∨ (np l = 1 ∧ pt < 0))) := by
  induction l with
  | nil => intro i pt h; simp [sc] at h
  | cons c r ih =>
    intro i pt h
    rintro ⟨h1, h2⟩
    rw [ok_cons] at h1
    by_cases hd : 48 ≤ c ∧ c ≤ 57
    · rw [sc_digit hd] at h
      have hc : c ≠ 46 := by omega
      simp only [np, hc, if_false] at h2
      exact ih _ _ h ⟨h1.2, h2⟩
    · have hc : c = 46 := by omega
      subst hc
      simp only [np, if_true] at h2
      have hp : pt < 0 := by omega
      rw [sc_point hp] at h
      exact ih _ _ h ⟨h1.2, .inl (by omega)⟩

def okB (l : List Int) : Bool := l.all (fun c => c == 46 || (decide (48 ≤ c) && decide (c ≤ 57)))
theorem okB_iff (l : List Int) : okB l = true ↔ ok l := by simp [okB, ok]

/-- Accepted: digits and at most one point, one to eighteen digits, the point neither first nor last. -/
def ac (l : List Int) : Bool := okB l && decide (1 ≤ nd l) && decide (nd l ≤ 18) && decide (np l ≤ 1) && (decide (np l = 0) || (decide (fp l 0 (-1) ≠ 0) && decide (fp l 0 (-1) ≠ (l.length : Int) - 1)))
def cf (l : List Int) : Int := if ac l = true then dv l else 0
def xp (l : List Int) : Int := if ac l = true then (if np l = 1 then -((l.length : Int) - 1 - fp l 0 (-1)) else 0) else 0

theorem ac_iff (l : List Int) : ac l = true ↔ ok l ∧ 1 ≤ nd l ∧ nd l ≤ 18 ∧ np l ≤ 1 ∧ (np l = 0 ∨ (fp l 0 (-1) ≠ 0 ∧ fp l 0 (-1) ≠ (l.length : Int) - 1)) := by
  simp [ac, okB_iff, and_assoc]
theorem ac_no {l : List Int} (h : ¬ (ok l ∧ 1 ≤ nd l ∧ nd l ≤ 18 ∧ np l ≤ 1 ∧ (np l = 0 ∨ (fp l 0 (-1) ≠ 0 ∧ fp l 0 (-1) ≠ (l.length : Int) - 1)))) : ac l = false ∧ cf l = 0 ∧ xp l = 0 := by
  have : ac l = false := by
    cases hb : ac l with
    | false => rfl
    | true => exact absurd ((ac_iff l).1 hb) h
  simp [cf, xp, this]
theorem ac_yes {l : List Int} (h : ok l ∧ 1 ≤ nd l ∧ nd l ≤ 18 ∧ np l ≤ 1 ∧ (np l = 0 ∨ (fp l 0 (-1) ≠ 0 ∧ fp l 0 (-1) ≠ (l.length : Int) - 1))) : ac l = true ∧ cf l = dv l ∧ xp l = (if np l = 1 then -((l.length : Int) - 1 - fp l 0 (-1)) else 0) := by
  have := (ac_iff l).2 h
  simp [cf, xp, this]

theorem take_snoc (l : List Int) (k : Nat) (h : k < l.length) : l.take (k + 1) = l.take k ++ [l.getD k 0] := by
  rw [List.take_succ_eq_append_getElem h, List.getD_eq_getElem?_getD, List.getElem?_eq_getElem h]; rfl
theorem drop_cons (l : List Int) (k : Nat) (h : k < l.length) : l.drop k = l.getD k 0 :: l.drop (k + 1) := by
  rw [List.drop_eq_getElem_cons h, List.getD_eq_getElem?_getD, List.getElem?_eq_getElem h]; rfl
theorem fp_range (l : List Int) : ∀ (i : Nat) (f : Int), f < 0 → np l ≠ 0 → (i : Int) ≤ fp l i f ∧ fp l i f < (i : Int) + l.length := by
  induction l with
  | nil => intro i f _ h; simp [np] at h
  | cons c r ih =>
    intro i f hf hn
    by_cases hc : c = 46
    · rw [fp, if_pos ⟨hc, hf⟩, fp_set r _ _ (by omega)]; simp; omega
    · simp only [np, hc, if_false] at hn
      have := ih (i + 1) f hf hn
      rw [fp, if_neg (by omega)]; simp; omega
end Go.Proofs.Qxb6604044a.Dec
