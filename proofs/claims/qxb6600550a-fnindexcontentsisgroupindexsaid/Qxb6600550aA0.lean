/-
  The plain side of 'sortByRank': a sort by digits from the last on, stable, and what it comes to. No Go in sight.
-/
namespace Go.Proofs.Qxb6600550a.Rad

/-- A candidate: its rank, its tag, its kind. -/
abbrev Cd := Nat × Int × Int

/-- The inverted rank. A definition that the walk leaves standing. -/
def nt (r : Nat) : Nat := 18446744073709551615 - r
def dg (b : Nat) (c : Cd) : Nat := nt c.1 / 2 ^ (8 * b) % 256
theorem dg_lt (b : Nat) (c : Cd) : dg b c < 256 := Nat.mod_lt _ (by omega)

/-- Those of digit d. -/
def F (b : Nat) (as : List Cd) (d : Nat) : List Cd := as.filter (fun c => dg b c == d)
/-- Where digit d begins. -/
def base (b : Nat) (as : List Cd) : Nat → Nat
  | 0 => 0
  | d + 1 => base b as d + (F b as d).length
def upto (b : Nat) (as : List Cd) : Nat → List Cd
  | 0 => []
  | d + 1 => upto b as d ++ F b as d
/-- One pass. -/
def pass (b : Nat) (as : List Cd) : List Cd := upto b as 256

theorem upto_len (b : Nat) (as : List Cd) (d : Nat) : (upto b as d).length = base b as d := by
  induction d with
  | zero => rfl
  | succ d ih => simp [upto, base, ih]

theorem upto_at (b : Nat) (as : List Cd) (m d t : Nat) (hd : d < m) (ht : t < (F b as d).length) : (upto b as m)[base b as d + t]? = (F b as d)[t]? := by
  induction m with
  | zero => omega
  | succ m ih =>
    rw [upto]
    by_cases h : d < m
    · have hl : base b as d + t < (upto b as m).length := by
        rw [upto_len]
        have : base b as (d + 1) ≤ base b as m := by
          clear ih hd
          induction m with
          | zero => omega
          | succ m ih2 =>
            by_cases h' : d < m
            · exact Nat.le_trans (ih2 h') (Nat.le_add_right _ _)
            · obtain rfl : d = m := by omega
              exact Nat.le_refl _
        simp only [base] at this
        omega
      rw [List.getElem?_append_left hl]
      exact ih h
    · obtain rfl : d = m := by omega
      rw [List.getElem?_append_right (by rw [upto_len]; omega), upto_len, Nat.add_sub_cancel_left]

theorem base_mono (b : Nat) (as : List Cd) {d e : Nat} (h : d ≤ e) : base b as d ≤ base b as e := by
  induction e with
  | zero => obtain rfl : d = 0 := by omega
            exact Nat.le_refl _
  | succ e ih =>
    by_cases h' : d ≤ e
    · exact Nat.le_trans (ih h') (Nat.le_add_right _ _)
    · obtain rfl : d = e + 1 := by omega
      exact Nat.le_refl _

/-- Every place below base m lies in one digit's range. -/
theorem base_find (b : Nat) (as : List Cd) (m q : Nat) (h : q < base b as m) : ∃ d t, d < m ∧ t < (F b as d).length ∧ q = base b as d + t := by
  induction m with
  | zero => simp [base] at h
  | succ m ih =>
    by_cases h' : q < base b as m
    · obtain ⟨d, t, h1, h2, h3⟩ := ih h'
      exact ⟨d, t, by omega, h2, h3⟩
    · simp only [base] at h
      exact ⟨m, q - base b as m, by omega, by omega, by omega⟩

theorem upto_perm_aux (b : Nat) (as : List Cd) (m : Nat) (x : Cd) : (upto b as m).count x = if dg b x < m then as.count x else 0 := by
  induction m with
  | zero => simp [upto]
  | succ m ih =>
    rw [upto, List.count_append, ih]
    by_cases h : dg b x = m
    · have hf : (F b as m).count x = as.count x := by
        unfold F
        rw [List.count_filter (by simpa using h)]
      rw [hf, if_neg (by omega), if_pos (by omega)]
      omega
    · have hf : (F b as m).count x = 0 := by
        unfold F
        rw [List.count_eq_zero]
        intro hx
        have := (List.mem_filter.1 hx).2
        simp at this
        exact h this
      rw [hf]
      by_cases h2 : dg b x < m
      · rw [if_pos h2, if_pos (by omega)]; omega
      · rw [if_neg h2, if_neg (by omega)]

theorem pass_perm (b : Nat) (as : List Cd) : (pass b as).Perm as := by
  rw [List.perm_iff_count]
  intro x
  rw [pass, upto_perm_aux, if_pos (dg_lt b x)]

theorem base_full (b : Nat) (as : List Cd) : base b as 256 = as.length := by
  rw [← upto_len]
  exact (pass_perm b as).length_eq

/-- The scatter behind k candidates. -/
def Scat (b : Nat) (as : List Cd) (k : Nat) (bs : List Cd) : Prop :=
  bs.length = as.length ∧ ∀ d t, d < 256 → t < (F b (as.take k) d).length → bs[base b as d + t]? = (F b (as.take k) d)[t]?

theorem scat_start (b : Nat) (as bs : List Cd) (h : bs.length = as.length) : Scat b as 0 bs := ⟨h, by simp [F]⟩

theorem F_take_le (b : Nat) (as : List Cd) (k d : Nat) : (F b (as.take k) d).length ≤ (F b as d).length := by
  unfold F
  exact (List.Sublist.filter _ (List.take_sublist k as)).length_le

theorem F_take_succ (b : Nat) (as : List Cd) (k d : Nat) (h : k < as.length) : F b (as.take (k + 1)) d = if dg b as[k] = d then F b (as.take k) d ++ [as[k]] else F b (as.take k) d := by
  unfold F
  rw [List.take_succ_eq_append_getElem h, List.filter_append]
  by_cases hd : dg b as[k] = d <;> simp [hd]

theorem F_take_lt (b : Nat) (as : List Cd) (k : Nat) (h : k < as.length) : (F b (as.take k) (dg b as[k])).length < (F b as (dg b as[k])).length := by
  have h1 := F_take_le b as (k + 1) (dg b as[k])
  rw [F_take_succ b as k _ h, if_pos rfl] at h1
  simp at h1
  omega

theorem pos_lt (b : Nat) (as : List Cd) (k : Nat) (h : k < as.length) : base b as (dg b as[k]) + (F b (as.take k) (dg b as[k])).length < as.length := by
  have h1 := F_take_lt b as k h
  have h2 := base_mono b as (show dg b as[k] + 1 ≤ 256 from dg_lt b _)
  rw [base_full] at h2
  simp only [base] at h2
  omega

theorem scat_step (b : Nat) (as bs : List Cd) (k : Nat) (h : k < as.length) (hs : Scat b as k bs) :
    Scat b as (k + 1) (bs.set (base b as (dg b as[k]) + (F b (as.take k) (dg b as[k])).length) as[k]) := by
  obtain ⟨h1, h2⟩ := hs
  have hp := pos_lt b as k h
  have hl := F_take_lt b as k h
  refine ⟨by simpa using h1, ?_⟩
  intro d t hd ht
  rw [F_take_succ b as k d h] at ht ⊢
  by_cases he : dg b as[k] = d
  · subst he
    rw [if_pos rfl] at ht ⊢
    by_cases htl : t < (F b (as.take k) (dg b as[k])).length
    · rw [List.getElem?_set_ne (by omega), List.getElem?_append_left htl]
      exact h2 _ t hd htl
    · simp at ht
      obtain rfl : t = (F b (as.take k) (dg b as[k])).length := by omega
      rw [List.getElem?_set_self (by omega), List.getElem?_append_right (Nat.le_refl _)]
      simp
  · rw [if_neg he] at ht ⊢
    have hle := F_take_le b as k d
    have hne : base b as (dg b as[k]) + (F b (as.take k) (dg b as[k])).length ≠ base b as d + t := by
      rcases Nat.lt_or_ge (dg b as[k]) d with hlt | hge
      · have := base_mono b as (show dg b as[k] + 1 ≤ d by omega)
        simp only [base] at this
        omega
      · have := base_mono b as (show d + 1 ≤ dg b as[k] by omega)
        simp only [base] at this
        omega
    rw [List.getElem?_set_ne hne]
    exact h2 d t hd ht

theorem scat_end (b : Nat) (as bs : List Cd) (hs : Scat b as as.length bs) : bs = pass b as := by
  obtain ⟨h1, h2⟩ := hs
  rw [List.take_length] at h2
  apply List.ext_getElem?
  intro q
  by_cases hq : q < as.length
  · obtain ⟨d, t, hd, ht, rfl⟩ := base_find b as 256 q (by rw [base_full]; exact hq)
    rw [h2 d t hd ht, pass, upto_at b as 256 d t hd ht]
  · rw [List.getElem?_eq_none (by omega), List.getElem?_eq_none (by rw [(pass_perm b as).length_eq]; omega)]

/-- Passes 0 to b - 1. -/
def rad (as : List Cd) : Nat → List Cd
  | 0 => as
  | b + 1 => pass b (rad as b)
theorem rad_perm (as : List Cd) (b : Nat) : (rad as b).Perm as := by
  induction b with
  | zero => exact List.Perm.refl _
  | succ b ih => exact (pass_perm b _).trans ih

/-- A pass over candidates of one digit changes nothing. -/
theorem pass_same (b : Nat) (as : List Cd) (d : Nat) (h : (F b as d).length = as.length) : pass b as = as := by
  have hall : ∀ c ∈ as, dg b c = d := by
    intro c hc
    have : F b as d = as := by
      unfold F at h ⊢
      exact (List.filter_sublist).eq_of_length h
    rw [← this] at hc
    have := (List.mem_filter.1 hc).2
    simpa using this
  have hF : ∀ e, F b as e = if e = d then as else [] := by
    intro e
    unfold F
    by_cases he : e = d
    · subst he
      rw [if_pos rfl]
      exact List.filter_eq_self.2 (fun c hc => by simp [hall c hc])
    · rw [if_neg he]
      exact List.filter_eq_nil_iff.2 (fun c hc => by simp [hall c hc]; omega)
  have hup : ∀ m, upto b as m = if d < m then as else [] := by
    intro m
    induction m with
    | zero => simp [upto]
    | succ m ih =>
      rw [upto, ih, hF]
      by_cases h1 : d < m
      · rw [if_pos h1, if_neg (by omega), if_pos (by omega)]; simp
      · by_cases h2 : m = d
        · rw [if_neg h1, if_pos h2, if_pos (by omega)]; simp
        · rw [if_neg h1, if_neg h2, if_neg (by omega)]; simp
  by_cases hd : d < 256
  · rw [pass, hup, if_pos hd]
  · have : as = [] := by
      cases as with
      | nil => rfl
      | cons c r => have := hall c (by simp); have := dg_lt b c; omega
    subst this
    rw [pass, hup]; simp

/-- The key that the first b passes sort by. -/
def K (b : Nat) (c : Cd) : Nat := nt c.1 % 2 ^ (8 * b)
theorem K_succ (b : Nat) (c : Cd) : K (b + 1) c = dg b c * 2 ^ (8 * b) + K b c := by
  unfold K dg
  have e : 2 ^ (8 * (b + 1)) = 2 ^ (8 * b) * 256 := by rw [show 8 * (b + 1) = 8 * b + 8 by omega, Nat.pow_add]
  rw [e, Nat.mod_mul, Nat.mul_comm (2 ^ (8 * b)) (nt c.1 / 2 ^ (8 * b) % 256)]
  omega
theorem K_lt (b : Nat) (c : Cd) : K b c < 2 ^ (8 * b) := Nat.mod_lt _ (Nat.pow_pos (by omega))

def Ord (R : Cd → Cd → Prop) (b : Nat) (x y : Cd) : Prop := K b x < K b y ∨ (K b x = K b y ∧ R x y)

theorem upto_mem {b : Nat} {as : List Cd} {m : Nat} {x : Cd} (h : x ∈ upto b as m) : dg b x < m := by
  induction m with
  | zero => simp [upto] at h
  | succ m ih =>
    rw [upto, List.mem_append] at h
    rcases h with h | h
    · have := ih h; omega
    · have := (List.mem_filter.1 h).2
      simp at this
      omega

theorem K_digit_lt {b : Nat} {x y : Cd} (h : dg b x < dg b y) : K (b + 1) x < K (b + 1) y := by
  rw [K_succ, K_succ]
  have h1 := K_lt b x
  have h2 : (dg b x + 1) * 2 ^ (8 * b) ≤ dg b y * 2 ^ (8 * b) := Nat.mul_le_mul_right _ h
  rw [Nat.add_mul] at h2
  omega

theorem pass_ord (R : Cd → Cd → Prop) (b : Nat) (as : List Cd) (h : as.Pairwise (Ord R b)) : (pass b as).Pairwise (Ord R (b + 1)) := by
  have hup : ∀ m, (upto b as m).Pairwise (Ord R (b + 1)) := by
    intro m
    induction m with
    | zero => simp [upto]
    | succ m ih =>
      rw [upto, List.pairwise_append]
      refine ⟨ih, ?_, ?_⟩
      · have hs : (F b as m).Pairwise (Ord R b) := h.sublist List.filter_sublist
        refine (List.Pairwise.imp_of_mem ?_ hs)
        intro x y hx hy hxy
        have h1 := (List.mem_filter.1 hx).2
        have h2 := (List.mem_filter.1 hy).2
        simp at h1 h2
        rcases hxy with hxy | ⟨hxy, hr⟩
        · left; rw [K_succ, K_succ, h1, h2]; omega
        · right; exact ⟨by rw [K_succ, K_succ, h1, h2, hxy], hr⟩
      · intro x hx y hy
        have h1 := upto_mem hx
        have h2 := (List.mem_filter.1 hy).2
        simp at h2
        exact .inl (K_digit_lt (by omega))
  exact hup 256

theorem rad_ord (R : Cd → Cd → Prop) (as : List Cd) (h : as.Pairwise R) (b : Nat) : (rad as b).Pairwise (Ord R b) := by
  induction b with
  | zero => exact h.imp (fun {x y} hr => .inr ⟨by simp [K, Nat.mod_one], hr⟩)
  | succ b ih => exact pass_ord R b _ ih

theorem K_eight {c : Cd} : K 8 c = nt c.1 := by
  unfold K nt
  exact Nat.mod_eq_of_lt (by omega)

/-- What the whole sort comes to: greater ranks ahead; among equal ranks the order R. -/
def Out (R : Cd → Cd → Prop) (x y : Cd) : Prop := y.1 < x.1 ∨ (x.1 = y.1 ∧ R x y)
theorem sort_out (R : Cd → Cd → Prop) (as : List Cd) (hr : ∀ c ∈ as, c.1 < 18446744073709551616) (h : as.Pairwise R) : (rad as 8).Pairwise (Out R) := by
  refine List.Pairwise.imp_of_mem ?_ (rad_ord R as h 8)
  intro x y hx hy hxy
  have h1 := hr x ((rad_perm as 8).mem_iff.1 hx)
  have h2 := hr y ((rad_perm as 8).mem_iff.1 hy)
  unfold Ord at hxy
  rw [K_eight, K_eight] at hxy
  unfold nt at hxy
  rcases hxy with h | ⟨h, hr⟩
  · left; omega
  · right; exact ⟨by omega, hr⟩

def Tag (x y : Cd) : Prop := x.2.1 < y.2.1

/-- Sorting what is sorted changes nothing. -/
theorem sort_again (as : List Cd) (hr : ∀ c ∈ as, c.1 < 18446744073709551616) (h : as.Pairwise Tag) : rad (rad as 8) 8 = rad as 8 := by
  have h1 := sort_out Tag as hr h
  have hr2 : ∀ c ∈ rad as 8, c.1 < 18446744073709551616 := fun c hc => hr c ((rad_perm as 8).mem_iff.1 hc)
  have h2 := sort_out (Out Tag) (rad as 8) hr2 h1
  have h3 : (rad (rad as 8) 8).Pairwise (Out Tag) := h2.imp (fun {x y} hxy => by
    rcases hxy with h | ⟨h, h'⟩
    · exact .inl h
    · exact h')
  refine List.Perm.eq_of_pairwise ?_ h3 h1 (rad_perm _ 8)
  intro x y _ _ hxy hyx
  unfold Out Tag at hxy hyx
  omega
end Go.Proofs.Qxb6600550a.Rad
