import Derived.Test.Qxb6600550aC1
namespace Go.Proofs.Qxb6600550a.Idx

/-! ### Every group but 0 renamed -/
/-- t' is t with its group renamed. -/
structure Ren (sh : Int) (t t' : Ct) : Prop where
  g : t'.g = if t.g = 0 then 0 else t.g + sh
  chs : t'.chs = t.chs
  wt : t'.wt = t.wt
  pos : 0 ≤ t.g

structure Sim (sh : Int) (s s' : Ix) : Prop where
  len : s'.kinds.length = s.kinds.length
  kinds : ∀ (k : Nat) (t : Ct), s.kinds[k]? = some t → ∃ t' : Ct, s'.kinds[k]? = some t' ∧ t'.g = t.g + sh ∧ t'.chs = t.chs ∧ t'.wt = t.wt
  kof : ∀ g, 0 < g → s'.kindOf (g + sh) = s.kindOf g
  count : s'.count = s.count
  less : ∀ g, 0 < g → s'.less (g + sh) = s.less g
  nless : s'.nless = s.nless
  hd : s'.hd = s.hd

theorem sim_none (sh : Int) : Sim sh Ix.none Ix.none :=
  ⟨rfl, by simp [Ix.none], fun _ _ => rfl, rfl, fun _ _ => rfl, rfl, rfl⟩

theorem Sim.bump {sh : Int} {s s' : Ix} (m : Sim sh s s') {g : Int} (hg : 0 < g) : Sim sh (s.bump g) (s'.bump (g + sh)) :=
  ⟨m.len, m.kinds, m.kof, by show s'.count.set _ _ = s.count.set _ _; rw [m.kof g hg, m.count], m.less, m.nless, m.hd⟩

theorem Sim.more {sh : Int} {s s' : Ix} (m : Sim sh s s') {t t' : Ct} (hg : 0 < t.g) (e1 : t'.g = t.g + sh) (e2 : t'.chs = t.chs) (e3 : t'.wt = t.wt) : Sim sh (s.more t) (s'.more t') := by
  have hu : ∀ {β : Type} (f f' : Int → β) (v : β), (∀ g, 0 < g → f' (g + sh) = f g) → ∀ g, 0 < g → upd f' t'.g v (g + sh) = upd f t.g v g := by
    intro β f f' v h g hg
    unfold upd
    rw [e1]
    by_cases he : g = t.g
    · rw [if_pos (by omega), if_pos he]
    · rw [if_neg (by omega), if_neg he]; exact h g hg
  refine ⟨by simp [Ix.more, m.len], ?_, ?_, ?_, ?_, ?_, ?_⟩
  · intro k u hu
    have hu : (s.kinds ++ [t])[k]? = some u := hu
    show ∃ u', (s'.kinds ++ [t'])[k]? = some u' ∧ _
    by_cases hk : k < s.kinds.length
    · rw [List.getElem?_append_left hk] at hu
      rw [List.getElem?_append_left (by rw [m.len]; exact hk)]
      exact m.kinds k u hu
    · have hl : k < s.kinds.length + 1 := by have := (List.getElem?_eq_some_iff.1 hu).1; simpa using this
      obtain rfl : k = s.kinds.length := by omega
      simp at hu; subst hu
      exact ⟨t', by rw [← m.len]; simp, e1, e2, e3⟩
  · show ∀ g, 0 < g → upd s'.kindOf t'.g (s'.kinds.length : Int) (g + sh) = upd s.kindOf t.g (s.kinds.length : Int) g
    rw [m.len]; exact hu _ _ _ m.kof
  · show s'.count ++ [0] = s.count ++ [0]
    rw [m.count]
  · show ∀ g, 0 < g → (if t'.chs = [] then upd s'.less t'.g (some (s'.kinds.length : Int)) else s'.less) (g + sh) = (if t.chs = [] then upd s.less t.g (some (s.kinds.length : Int)) else s.less) g
    rw [e2, m.len]
    by_cases hc : t.chs = []
    · simp only [if_pos hc]; exact hu _ _ _ m.less
    · simp only [if_neg hc]; exact m.less
  · show (if t'.chs = [] then (if (s'.less t'.g).isSome then s'.nless else s'.nless + 1) else s'.nless) = (if t.chs = [] then (if (s.less t.g).isSome then s.nless else s.nless + 1) else s.nless)
    rw [e2, e1, m.less t.g hg, m.nless]
  · show t'.chs.foldl (Hd.step s'.kinds.length) s'.hd = t.chs.foldl (Hd.step s.kinds.length) s.hd
    rw [e2, m.len, m.hd]

theorem Sim.step {sh : Int} (hs : 0 < sh) {s s' : Ix} (m : Sim sh s s') {t t' : Ct} (r : Ren sh t t') : Sim sh (s.step t) (s'.step t') := by
  unfold Ix.step
  by_cases h0 : t.g = 0
  · have : t'.g = 0 := by rw [r.g, if_pos h0]
    rw [if_pos h0, if_pos this]; exact m
  · have hp := r.pos
    have e : t'.g = t.g + sh := by rw [r.g, if_neg h0]
    have hg : 0 < t.g := by omega
    rw [if_neg h0, if_neg (show ¬ t'.g = 0 by omega), e, m.kof t.g hg]
    by_cases hk : s.kindOf t.g < 0
    · rw [if_pos hk, if_pos hk]; exact (m.more hg e r.chs r.wt).bump hg
    · rw [if_neg hk, if_neg hk]; exact m.bump hg

theorem sim_ixOf (sh : Int) (hs : 0 < sh) (ts ts' : List Ct) (hl : ts'.length = ts.length) (h : ∀ (j : Nat) t t', ts[j]? = some t → ts'[j]? = some t' → Ren sh t t') : Sim sh (ixOf ts) (ixOf ts') := by
  have key : ∀ (us us' : List Ct) (s s' : Ix), us'.length = us.length → (∀ (j : Nat) t t', us[j]? = some t → us'[j]? = some t' → Ren sh t t') → Sim sh s s' → Sim sh (us.foldl Ix.step s) (us'.foldl Ix.step s') := by
    intro us
    induction us with
    | nil =>
      intro us' s s' hl _ m
      obtain rfl : us' = [] := List.eq_nil_of_length_eq_zero hl
      exact m
    | cons u r ih =>
      intro us' s s' hl hr m
      match us', hl with
      | u' :: r', hl =>
        exact ih r' (s.step u) (s'.step u') (by simpa using hl) (fun j t t' h1 h2 => hr (j + 1) t t' (by simpa using h1) (by simpa using h2)) (m.step hs (hr 0 u u' rfl rfl))
  exact key ts ts' Ix.none Ix.none hl h (sim_none sh)

/-! ### The members -/
/-- Where the members of kind k begin. -/
def first (cs : List Int) (k : Nat) : Int := (cs.take k).sum
theorem first_zero (cs : List Int) : first cs 0 = 0 := rfl
theorem first_succ (cs : List Int) (k : Nat) (c : Int) (h : cs[k]? = some c) : first cs (k + 1) = first cs k + c := by
  have hk : k < cs.length := (List.getElem?_eq_some_iff.1 h).1
  have e : cs[k] = c := by rw [List.getElem?_eq_getElem hk] at h; exact Option.some.inj h
  unfold first
  rw [List.take_succ_eq_append_getElem hk, List.sum_append, e]; simp
theorem first_mono (cs : List Int) (h : ∀ c ∈ cs, 0 ≤ c) (k : Nat) : ∀ d, first cs k ≤ first cs (k + d) := by
  intro d
  induction d with
  | zero => exact Int.le_refl _
  | succ d ih =>
    refine Int.le_trans ih ?_
    rw [← Nat.add_assoc]
    cases hc : cs[k + d]? with
    | none =>
      have hl : cs.length ≤ k + d := List.getElem?_eq_none_iff.1 hc
      unfold first
      rw [List.take_of_length_le hl, List.take_of_length_le (by omega)]
      exact Int.le_refl _
    | some c => rw [first_succ cs _ c hc]; have := h c (List.mem_of_getElem? hc); omega

def updN (f : Nat → Int) (x : Nat) (v : Int) : Nat → Int := fun a => if a = x then v else f a
/-- Members and the next places, behind j contents. -/
def memAt (kindOf : Int → Int) (cs : List Int) (ts : List Ct) : Nat → (Nat → Int) × (Nat → Int)
  | 0 => (fun _ => 0, first cs)
  | j + 1 =>
    let p := memAt kindOf cs ts j
    match ts[j]? with
    | none => p
    | some t => if t.g = 0 then p else (updN p.1 (p.2 (kindOf t.g).toNat).toNat j, updN p.2 (kindOf t.g).toNat (p.2 (kindOf t.g).toNat + 1))

theorem memAt_skip (kindOf : Int → Int) (cs : List Int) (ts : List Ct) (j : Nat) (t : Ct) (h : ts[j]? = some t) (h0 : t.g = 0) : memAt kindOf cs ts (j + 1) = memAt kindOf cs ts j := by
  simp [memAt, h, h0]
theorem memAt_step (kindOf : Int → Int) (cs : List Int) (ts : List Ct) (j : Nat) (t : Ct) (h : ts[j]? = some t) (h0 : t.g ≠ 0) (k : Nat) (hk : kindOf t.g = (k : Int)) :
    memAt kindOf cs ts (j + 1) = (updN (memAt kindOf cs ts j).1 ((memAt kindOf cs ts j).2 k).toNat j, updN (memAt kindOf cs ts j).2 k ((memAt kindOf cs ts j).2 k + 1)) := by
  simp [memAt, h, h0, hk]

theorem next_eq (kindOf : Int → Int) (cs : List Int) (ts : List Ct) (hk : ∀ t ∈ ts, t.g ≠ 0 → 0 ≤ kindOf t.g) : ∀ j, j ≤ ts.length → ∀ k, (memAt kindOf cs ts j).2 k = first cs k + cnt kindOf (ts.take j) k := by
  intro j
  induction j with
  | zero => intro _ k; simp [memAt, cnt]
  | succ j ih =>
    intro hj k
    have hj' : j < ts.length := by omega
    have ht : ts[j]? = some ts[j] := List.getElem?_eq_getElem hj'
    rw [List.take_succ_eq_append_getElem hj', cnt_snoc]
    by_cases h0 : ts[j].g = 0
    · rw [memAt_skip _ _ _ _ _ ht h0, ih (by omega) k, if_neg (by simp [h0])]; simp
    · obtain ⟨q, hq⟩ := Int.eq_ofNat_of_zero_le (hk _ (List.getElem_mem hj') h0)
      rw [memAt_step _ _ _ _ _ ht h0 q hq, hq]
      show updN _ _ _ k = _
      unfold updN
      by_cases he : k = q
      · subst he
        rw [if_pos rfl, if_pos ⟨h0, rfl⟩, ih (by omega) k]; omega
      · rw [if_neg he, if_neg (by omega), ih (by omega) k]; simp

theorem cnt_mono (kindOf : Int → Int) (ts : List Ct) (j : Nat) (t : Ct) (h : ts[j]? = some t) (h0 : t.g ≠ 0) (k : Nat) (hk : kindOf t.g = (k : Int)) : cnt kindOf (ts.take j) k < cnt kindOf ts k := by
  have hj : j < ts.length := (List.getElem?_eq_some_iff.1 h).1
  have e : ts[j] = t := by rw [List.getElem?_eq_getElem hj] at h; exact Option.some.inj h
  have h1 : cnt kindOf (ts.take (j + 1)) k = cnt kindOf (ts.take j) k + 1 := by
    rw [List.take_succ_eq_append_getElem hj, cnt_snoc, e, if_pos ⟨h0, hk⟩]
  have h2 : cnt kindOf (ts.take (j + 1)) k ≤ cnt kindOf ts k := by
    unfold cnt
    exact ((List.take_sublist _ _).filter _).length_le
  omega

/-- The next place of a content is among the members. -/
theorem next_lt (ts : List Ct) (j : Nat) (t : Ct) (h : ts[j]? = some t) (h0 : t.g ≠ 0) : ∃ k : Nat, (ixOf ts).kindOf t.g = (k : Int) ∧ k < (ixOf ts).kinds.length ∧
    0 ≤ (memAt (ixOf ts).kindOf (ixOf ts).count ts j).2 k ∧ (memAt (ixOf ts).kindOf (ixOf ts).count ts j).2 k < first (ixOf ts).count (ixOf ts).count.length := by
  have o := ok_ixOf ts
  have hj : j < ts.length := (List.getElem?_eq_some_iff.1 h).1
  have hp := o.seen t (List.mem_of_getElem? h) h0
  obtain ⟨k, hk⟩ := Int.eq_ofNat_of_zero_le hp
  have hkl : k < (ixOf ts).kinds.length := by
    rcases o.rng t.g with e | ⟨_, e⟩ <;> omega
  have hpos : ∀ c ∈ (ixOf ts).count, 0 ≤ c := by
    intro c hc
    obtain ⟨i, hi⟩ := List.mem_iff_getElem?.1 hc
    have hil : i < (ixOf ts).kinds.length := by rw [← o.len]; exact (List.getElem?_eq_some_iff.1 hi).1
    rw [o.num i hil] at hi
    have := Option.some.inj hi
    omega
  have h1 := next_eq (ixOf ts).kindOf (ixOf ts).count ts o.seen j (by omega) k
  have h2 := cnt_mono (ixOf ts).kindOf ts j t h h0 k hk
  have h3 := first_succ _ _ _ (o.num k hkl)
  have h4 := first_mono (ixOf ts).count hpos (k + 1) ((ixOf ts).count.length - (k + 1))
  rw [show k + 1 + ((ixOf ts).count.length - (k + 1)) = (ixOf ts).count.length by rw [o.len]; omega] at h4
  have h5 := first_mono (ixOf ts).count hpos 0 k
  rw [first_zero, Nat.zero_add] at h5
  exact ⟨k, hk, hkl, by rw [h1]; omega, by rw [h1]; omega⟩

theorem memAt_sim (f f' : Int → Int) (cs : List Int) (ts ts' : List Ct) (hl : ts'.length = ts.length) (h : ∀ (j : Nat) t t', ts[j]? = some t → ts'[j]? = some t' → (t'.g = 0 ↔ t.g = 0) ∧ (t.g ≠ 0 → f' t'.g = f t.g)) : ∀ j, memAt f' cs ts' j = memAt f cs ts j := by
  intro j
  induction j with
  | zero => rfl
  | succ j ih =>
    by_cases hj : j < ts.length
    · have h1 : ts[j]? = some ts[j] := List.getElem?_eq_getElem hj
      have h2 : ts'[j]? = some (ts'[j]'(by omega)) := List.getElem?_eq_getElem (by omega)
      obtain ⟨e1, e2⟩ := h j _ _ h1 h2
      by_cases h0 : ts[j].g = 0
      · rw [memAt_skip _ _ _ _ _ h1 h0, memAt_skip _ _ _ _ _ h2 (e1.2 h0), ih]
      · have h0' : ts'[j].g ≠ 0 := fun e => h0 (e1.1 e)
        simp only [memAt, h1, h2, h0, h0', if_false, ih, e2 h0]
    · have h1 : ts[j]? = none := List.getElem?_eq_none_iff.2 (by omega)
      have h2 : ts'[j]? = none := List.getElem?_eq_none_iff.2 (by omega)
      simp only [memAt, h1, h2, ih]
end Go.Proofs.Qxb6600550a.Idx
