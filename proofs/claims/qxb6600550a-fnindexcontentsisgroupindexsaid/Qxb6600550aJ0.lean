import Derived.Test.Qxb6600550aG0
namespace Go.Proofs.Qxb6600550a.Idx
/-! The index, as zzIsGroupIndex describes it: plain. -/

/-- The place where group g first appears among the first j contents, or -1. -/
def fp (us : List Ct) : Nat → Int → Int
  | 0, _ => -1
  | j + 1, g => match us[j]? with
    | none => fp us j g
    | some t => if t.g ≠ 0 ∧ fp us j t.g < 0 ∧ g = t.g then (j : Int) else fp us j g
/-- How many groups first appear before place j. -/
def kb (us : List Ct) (j : Nat) : Nat := (ixOf (us.take j)).kinds.length

theorem fp_step (us : List Ct) (j : Nat) (t : Ct) (h : us[j]? = some t) (g : Int) : fp us (j + 1) g = if t.g ≠ 0 ∧ fp us j t.g < 0 ∧ g = t.g then (j : Int) else fp us j g := by
  simp only [fp, h]
theorem fp_skip (us : List Ct) (j : Nat) (t : Ct) (h : us[j]? = some t) (h0 : t.g = 0 ∨ 0 ≤ fp us j t.g) (g : Int) : fp us (j + 1) g = fp us j g := by
  rw [fp_step us j t h, if_neg]
  rintro ⟨a, b, _⟩
  omega
theorem fp_keep (us : List Ct) (j : Nat) (g : Int) (h : 0 ≤ fp us j g) : ∀ d, fp us (j + d) g = fp us j g := by
  intro d
  induction d with
  | zero => rfl
  | succ d ih =>
    rw [← Nat.add_assoc]
    cases hc : us[j + d]? with
    | none => simp only [fp, hc]; exact ih
    | some t =>
      rw [fp_step us _ t hc]
      by_cases he : t.g ≠ 0 ∧ fp us (j + d) t.g < 0 ∧ g = t.g
      · rw [if_pos he]
        obtain ⟨_, b, c⟩ := he
        rw [← c, ih] at b
        omega
      · rw [if_neg he]; exact ih
theorem kinds_step (s : Ix) (t : Ct) : (s.step t).kinds = if t.g ≠ 0 ∧ s.kindOf t.g < 0 then s.kinds ++ [t] else s.kinds := by
  unfold Ix.step
  by_cases h0 : t.g = 0
  · rw [if_pos h0, if_neg (by simp [h0])]
  · rw [if_neg h0]
    by_cases hk : s.kindOf t.g < 0
    · rw [if_pos hk, if_pos ⟨h0, hk⟩]; rfl
    · rw [if_neg hk, if_neg (by simp [hk])]; rfl
theorem kof_step (s : Ix) (t : Ct) (g : Int) : (s.step t).kindOf g = if t.g ≠ 0 ∧ s.kindOf t.g < 0 ∧ g = t.g then (s.kinds.length : Int) else s.kindOf g := by
  unfold Ix.step
  by_cases h0 : t.g = 0
  · rw [if_pos h0, if_neg (by simp [h0])]
  · rw [if_neg h0]
    by_cases hk : s.kindOf t.g < 0
    · rw [if_pos hk]
      show upd s.kindOf t.g (s.kinds.length : Int) g = _
      unfold upd
      by_cases hg : g = t.g
      · rw [if_pos hg, if_pos ⟨h0, hk, hg⟩]
      · rw [if_neg hg, if_neg (by simp [hg])]
    · rw [if_neg hk, if_neg (by simp [hk])]; rfl

structure FpOk (us : List Ct) (j : Nat) : Prop where
  neg : ∀ g, fp us j g < 0 → fp us j g = -1 ∧ (ixOf (us.take j)).kindOf g < 0
  pos : ∀ g, 0 ≤ fp us j g → ∃ (p : Nat) (t : Ct), fp us j g = p ∧ p < j ∧ us[p]? = some t ∧ t.g = g ∧ g ≠ 0 ∧ (ixOf (us.take j)).kindOf g = (kb us p : Int) ∧ (ixOf (us.take j)).kinds[kb us p]? = some t ∧ kb us p < kb us j
theorem fpok (us : List Ct) : ∀ j, j ≤ us.length → FpOk us j := by
  intro j
  induction j with
  | zero => intro _; exact ⟨fun g _ => ⟨rfl, by simp [ixOf, Ix.none]⟩, fun g h => by simp [fp] at h⟩
  | succ j ih =>
    intro hj
    have o := ih (by omega)
    have ht : us[j]? = some us[j] := List.getElem?_eq_getElem (by omega)
    have hs := ixOf_take us j us[j] ht
    generalize us[j] = t at ht hs
    have hiff : t.g ≠ 0 → (fp us j t.g < 0 ↔ (ixOf (us.take j)).kindOf t.g < 0) := fun h0 => by
      constructor
      · exact fun h => (o.neg _ h).2
      · intro h
        rcases Int.lt_or_le (fp us j t.g) 0 with h' | h'
        · exact h'
        · obtain ⟨p, t', _, _, _, _, _, e, _⟩ := o.pos _ h'
          omega
    have hkb : ∀ p, p < j → kb us p < kb us j → kb us p < kb us (j + 1) := fun p _ h => by
      unfold kb at h ⊢
      rw [hs, kinds_step]
      split
      · simp; omega
      · exact h
    by_cases hn : t.g ≠ 0 ∧ fp us j t.g < 0
    · have hn' : t.g ≠ 0 ∧ (ixOf (us.take j)).kindOf t.g < 0 := ⟨hn.1, (hiff hn.1).1 hn.2⟩
      refine ⟨fun g hg => ?_, fun g hg => ?_⟩
      · rw [fp_step us j t ht] at hg ⊢
        by_cases he : t.g ≠ 0 ∧ fp us j t.g < 0 ∧ g = t.g
        · rw [if_pos he] at hg; omega
        · rw [if_neg he] at hg ⊢
          refine ⟨(o.neg g hg).1, ?_⟩
          rw [hs, kof_step, if_neg]
          · exact (o.neg g hg).2
          · rintro ⟨a, b, c⟩; exact he ⟨hn.1, hn.2, c⟩
      · rw [fp_step us j t ht] at hg ⊢
        by_cases he : t.g ≠ 0 ∧ fp us j t.g < 0 ∧ g = t.g
        · rw [if_pos he] at hg ⊢
          obtain ⟨_, _, rfl⟩ := he
          refine ⟨j, t, rfl, by omega, ht, rfl, hn.1, ?_, ?_, ?_⟩
          · rw [hs, kof_step, if_pos ⟨hn'.1, hn'.2, rfl⟩]; rfl
          · rw [hs, kinds_step, if_pos hn']; unfold kb; simp
          · unfold kb; rw [hs, kinds_step, if_pos hn']; simp
        · rw [if_neg he] at hg ⊢
          obtain ⟨p, t', e1, e2, e3, e4, e5, e6, e7, e8⟩ := o.pos g hg
          refine ⟨p, t', e1, by omega, e3, e4, e5, ?_, ?_, hkb p e2 e8⟩
          · rw [hs, kof_step, if_neg]
            · exact e6
            · rintro ⟨a, b, c⟩; exact he ⟨hn.1, hn.2, c⟩
          · rw [hs, kinds_step, if_pos hn', List.getElem?_append_left (by exact e8)]; exact e7
    · have hn' : ¬ (t.g ≠ 0 ∧ (ixOf (us.take j)).kindOf t.g < 0) := fun ⟨a, b⟩ => hn ⟨a, (hiff a).2 b⟩
      have hfe : ∀ g, fp us (j + 1) g = fp us j g := fun g => by
        rw [fp_step us j t ht, if_neg]
        rintro ⟨a, b, _⟩; exact hn ⟨a, b⟩
      have hke : ∀ g, (ixOf (us.take (j + 1))).kindOf g = (ixOf (us.take j)).kindOf g := fun g => by
        rw [hs, kof_step, if_neg]
        rintro ⟨a, b, _⟩; exact hn' ⟨a, b⟩
      refine ⟨fun g hg => ?_, fun g hg => ?_⟩
      · rw [hfe] at hg ⊢
        rw [hke]; exact o.neg g hg
      · rw [hfe] at hg ⊢
        obtain ⟨p, t', e1, e2, e3, e4, e5, e6, e7, e8⟩ := o.pos g hg
        refine ⟨p, t', e1, by omega, e3, e4, e5, by rw [hke]; exact e6, ?_, hkb p e2 e8⟩
        rw [hs, kinds_step, if_neg hn']; exact e7

/-- Group g of content j first appears at j, or before. -/
theorem fp_at (us : List Ct) (j : Nat) (t : Ct) (ht : us[j]? = some t) (h0 : t.g ≠ 0) : (fp us j t.g < 0 ∧ fp us us.length t.g = j ∧ kb us (j + 1) = kb us j + 1) ∨ (∃ p : Nat, p < j ∧ fp us j t.g = p ∧ fp us us.length t.g = p ∧ kb us (j + 1) = kb us j) := by
  have hj := (List.getElem?_eq_some_iff.1 ht).1
  have o := fpok us j (by omega)
  have hs := ixOf_take us j t ht
  rcases Int.lt_or_le (fp us j t.g) 0 with h | h
  · have e : fp us (j + 1) t.g = j := by rw [fp_step us j t ht, if_pos ⟨h0, h, rfl⟩]
    have k := fp_keep us (j + 1) t.g (by omega) (us.length - (j + 1))
    rw [show j + 1 + (us.length - (j + 1)) = us.length by omega, e] at k
    refine .inl ⟨h, k, ?_⟩
    unfold kb
    rw [hs, kinds_step, if_pos ⟨h0, (o.neg _ h).2⟩]; simp
  · obtain ⟨p, t', e1, e2, _, _, _, e6, _, _⟩ := o.pos _ h
    have k := fp_keep us j t.g h (us.length - j)
    rw [show j + (us.length - j) = us.length by omega, e1] at k
    refine .inr ⟨p, e2, e1, k, ?_⟩
    unfold kb
    rw [hs, kinds_step, if_neg]
    rintro ⟨_, b⟩
    omega
theorem kb_skip (us : List Ct) (j : Nat) (t : Ct) (ht : us[j]? = some t) (h0 : t.g = 0) : kb us (j + 1) = kb us j := by
  unfold kb
  rw [ixOf_take us j t ht, kinds_step, if_neg (by simp [h0])]
theorem kb_all (us : List Ct) : kb us us.length = (ixOf us).kinds.length := by unfold kb; rw [List.take_length]

/-- The kind of a content that bears a group. -/
theorem kind_at (us : List Ct) (j : Nat) (t : Ct) (ht : us[j]? = some t) (h0 : t.g ≠ 0) : ∃ (p : Nat) (t' : Ct), fp us us.length t.g = p ∧ p ≤ j ∧ us[p]? = some t' ∧ t'.g = t.g ∧ (ixOf us).kindOf t.g = (kb us p : Int) ∧ (ixOf us).kinds[kb us p]? = some t' ∧ kb us p < (ixOf us).kinds.length := by
  have hj := (List.getElem?_eq_some_iff.1 ht).1
  have o := fpok us us.length (Nat.le_refl _)
  have hp : ∃ p : Nat, p ≤ j ∧ fp us us.length t.g = p := by
    rcases fp_at us j t ht h0 with ⟨_, h, _⟩ | ⟨p, hp, _, h, _⟩
    · exact ⟨j, Nat.le_refl _, h⟩
    · exact ⟨p, by omega, h⟩
  obtain ⟨p, hp, e⟩ := hp
  obtain ⟨p', t', e1, e2, e3, e4, e5, e6, e7, e8⟩ := o.pos t.g (by omega)
  obtain rfl : p = p' := by omega
  rw [List.take_length] at e6 e7
  rw [kb_all] at e8
  exact ⟨p, t', e, hp, e3, e4, e6, e7, e8⟩
/-- Where kind k first stands. -/
theorem place_of (us : List Ct) (k : Nat) (u : Ct) (hu : (ixOf us).kinds[k]? = some u) : ∃ p : Nat, p < us.length ∧ us[p]? = some u ∧ u.g ≠ 0 ∧ fp us us.length u.g = p ∧ kb us p = k := by
  obtain ⟨h0, hk⟩ := (ok_ixOf us).kind k u hu
  have o := fpok us us.length (Nat.le_refl _)
  have hp : 0 ≤ fp us us.length u.g := by
    rcases Int.lt_or_le (fp us us.length u.g) 0 with h | h
    · have := (o.neg _ h).2
      rw [List.take_length] at this
      omega
    · exact h
  obtain ⟨p, t', e1, e2, e3, e4, e5, e6, e7, e8⟩ := o.pos _ hp
  rw [List.take_length] at e6 e7
  have : kb us p = k := by omega
  rw [this, hu] at e7
  cases e7
  exact ⟨p, e2, e3, h0, e1, this⟩

/-! letterless -/
structure LessOk (s : Ix) : Prop where
  no : ∀ g, s.kindOf g < 0 → s.less g = .none
  yes : ∀ (k : Nat) (t : Ct), s.kinds[k]? = some t → s.less t.g = if t.chs = [] then some (k : Int) else .none
  num : s.nless = (s.kinds.filter (fun t => t.chs.isEmpty)).length
theorem LessOk.step {s : Ix} {vs : List Ct} (h : LessOk s) (o : Ok s vs) (t : Ct) : LessOk (s.step t) := by
  unfold Ix.step
  by_cases h0 : t.g = 0
  · rw [if_pos h0]; exact h
  · rw [if_neg h0]
    by_cases hk : s.kindOf t.g < 0
    · rw [if_pos hk]
      have hne : ∀ (k : Nat) (u : Ct), s.kinds[k]? = some u → u.g ≠ t.g := fun k u hu e => by
        have := (o.kind k u hu).2
        rw [e] at this
        omega
      refine ⟨fun g hg => ?_, fun k u hu => ?_, ?_⟩
      · have hg : upd s.kindOf t.g (s.kinds.length : Int) g < 0 := hg
        show (if t.chs = [] then upd s.less t.g (some (s.kinds.length : Int)) else s.less) g = .none
        unfold upd at hg
        by_cases he : g = t.g
        · rw [if_pos he] at hg; omega
        · rw [if_neg he] at hg
          by_cases hc : t.chs = []
          · rw [if_pos hc]; unfold upd; rw [if_neg he]; exact h.no g hg
          · rw [if_neg hc]; exact h.no g hg
      · have hu : (s.kinds ++ [t])[k]? = some u := hu
        show (if t.chs = [] then upd s.less t.g (some (s.kinds.length : Int)) else s.less) u.g = _
        by_cases hkl : k < s.kinds.length
        · rw [List.getElem?_append_left hkl] at hu
          have h1 := h.yes k u hu
          by_cases hc : t.chs = []
          · rw [if_pos hc]; unfold upd; rw [if_neg (hne k u hu)]; exact h1
          · rw [if_neg hc]; exact h1
        · have hl : k < s.kinds.length + 1 := by have := (List.getElem?_eq_some_iff.1 hu).1; simpa using this
          obtain rfl : k = s.kinds.length := by omega
          simp at hu; subst hu
          by_cases hc : t.chs = []
          · rw [if_pos hc, if_pos hc]; unfold upd; rw [if_pos rfl]
          · rw [if_neg hc, if_neg hc]; exact h.no _ hk
      · show (if t.chs = [] then (if (s.less t.g).isSome then s.nless else s.nless + 1) else s.nless) = ((s.kinds ++ [t]).filter (fun t => t.chs.isEmpty)).length
        rw [List.filter_append, List.length_append, ← h.num, h.no _ hk]
        by_cases hc : t.chs = []
        · rw [if_pos hc]; simp [hc]
        · rw [if_neg hc]
          have : t.chs.isEmpty = false := by simpa using hc
          simp [this]
    · rw [if_neg hk]; exact ⟨h.no, h.yes, h.num⟩
theorem less_ok (us : List Ct) : LessOk (ixOf us) := by
  have key : ∀ (r vs : List Ct) (s : Ix), Ok s vs → LessOk s → LessOk (r.foldl Ix.step s) := by
    intro r
    induction r with
    | nil => intro vs s _ h; exact h
    | cons u r ih => intro vs s o h; exact ih (vs ++ [u]) (s.step u) (o.step u) (h.step o u)
  exact key us [] Ix.none ok_none ⟨fun _ _ => rfl, by simp [Ix.none], rfl⟩

/-! holdings -/
def hd0 : Hd := ⟨fun _ => [], 0⟩
def hdOf (ks : List Ct) : Nat → Hd
  | 0 => hd0
  | k + 1 => match ks[k]? with
    | none => hdOf ks k
    | some t => t.chs.foldl (Hd.step k) (hdOf ks k)
theorem hdOf_step (ks : List Ct) (k : Nat) (t : Ct) (h : ks[k]? = some t) : hdOf ks (k + 1) = t.chs.foldl (Hd.step k) (hdOf ks k) := by simp only [hdOf, h]
theorem hdOf_app (ks r : List Ct) : ∀ k, k ≤ ks.length → hdOf (ks ++ r) k = hdOf ks k := by
  intro k
  induction k with
  | zero => intro _; rfl
  | succ k ih =>
    intro hk
    have e : (ks ++ r)[k]? = ks[k]? := List.getElem?_append_left (by omega)
    simp only [hdOf, e, ih (by omega)]
theorem hd_all (us : List Ct) : (ixOf us).hd = hdOf (ixOf us).kinds (ixOf us).kinds.length := by
  have key : ∀ (r : List Ct) (s : Ix), s.hd = hdOf s.kinds s.kinds.length → (r.foldl Ix.step s).hd = hdOf (r.foldl Ix.step s).kinds (r.foldl Ix.step s).kinds.length := by
    intro r
    induction r with
    | nil => intro s h; exact h
    | cons u r ih =>
      intro s h
      refine ih (s.step u) ?_
      unfold Ix.step
      by_cases h0 : u.g = 0
      · rw [if_pos h0]; exact h
      · rw [if_neg h0]
        by_cases hk : s.kindOf u.g < 0
        · rw [if_pos hk]
          show u.chs.foldl (Hd.step s.kinds.length) s.hd = hdOf (s.kinds ++ [u]) (s.kinds ++ [u]).length
          rw [List.length_append, List.length_singleton, hdOf_step _ _ u (by simp), hdOf_app _ _ _ (Nat.le_refl _), ← h]
        · rw [if_neg hk]; exact h
  exact key us Ix.none rfl
def Pre (a b : Hd) : Prop := ∀ r, a.h r <+: b.h r
theorem Pre.refl (a : Hd) : Pre a a := fun _ => List.prefix_refl _
theorem Pre.trans {a b c : Hd} (h : Pre a b) (k : Pre b c) : Pre a c := fun r => (h r).trans (k r)
theorem pre_step (k : Int) (a : Hd) (c : Ch) : Pre a (a.step k c) := fun r => by
  show a.h r <+: (if r = c.1 then a.h c.1 ++ [(k, c.2.1)] else a.h r)
  by_cases he : r = c.1
  · rw [if_pos he, he]; exact List.prefix_append _ _
  · rw [if_neg he]; exact List.prefix_refl _
theorem pre_fold (k : Int) (cs : List Ch) : ∀ a : Hd, Pre a (cs.foldl (Hd.step k) a) := by
  induction cs with
  | nil => intro a; exact Pre.refl a
  | cons c r ih => intro a; exact (pre_step k a c).trans (ih _)
theorem pre_hdOf (ks : List Ct) (k : Nat) : ∀ d, Pre (hdOf ks k) (hdOf ks (k + d)) := by
  intro d
  induction d with
  | zero => exact Pre.refl _
  | succ d ih =>
    refine ih.trans ?_
    rw [← Nat.add_assoc]
    cases hc : ks[k + d]? with
    | none => simp only [hdOf, hc]; exact Pre.refl _
    | some t => rw [hdOf_step _ _ t hc]; exact pre_fold _ _ _
/-- The entry of character c of kind k. -/
theorem hold_at (us : List Ct) (k : Nat) (t : Ct) (ht : (ixOf us).kinds[k]? = some t) (c : Nat) (r n : Int) (x : Nat) (hc : t.chs[c]? = some (r, n, x)) :
    ((ixOf us).hd.h r)[(((t.chs.take c).foldl (Hd.step k) (hdOf (ixOf us).kinds k)).h r).length]? = some ((k : Int), n) ∧
    (t.chs.take (c + 1)).foldl (Hd.step k) (hdOf (ixOf us).kinds k) = ((t.chs.take c).foldl (Hd.step k) (hdOf (ixOf us).kinds k)).step k (r, n, x) := by
  have hcl := (List.getElem?_eq_some_iff.1 hc).1
  have hge : t.chs[c] = (r, n, x) := by rw [List.getElem?_eq_getElem hcl] at hc; exact Option.some.inj hc
  have e : (t.chs.take (c + 1)).foldl (Hd.step k) (hdOf (ixOf us).kinds k) = ((t.chs.take c).foldl (Hd.step k) (hdOf (ixOf us).kinds k)).step k (r, n, x) := by
    rw [List.take_succ_eq_append_getElem hcl, List.foldl_append, hge]; rfl
  refine ⟨?_, e⟩
  have hkl := (List.getElem?_eq_some_iff.1 ht).1
  have p1 : Pre ((t.chs.take (c + 1)).foldl (Hd.step k) (hdOf (ixOf us).kinds k)) (ixOf us).hd := by
    rw [hd_all us]
    have h1 := pre_hdOf (ixOf us).kinds (k + 1) ((ixOf us).kinds.length - (k + 1))
    rw [show k + 1 + ((ixOf us).kinds.length - (k + 1)) = (ixOf us).kinds.length by omega] at h1
    refine Pre.trans ?_ h1
    rw [hdOf_step _ _ t ht]
    have h2 := pre_fold k (t.chs.drop (c + 1)) ((t.chs.take (c + 1)).foldl (Hd.step k) (hdOf (ixOf us).kinds k))
    rw [← List.foldl_append, List.take_append_drop] at h2
    exact h2
  rw [e] at p1
  obtain ⟨q, hq⟩ := p1 r
  have e2 : (((t.chs.take c).foldl (Hd.step k) (hdOf (ixOf us).kinds k)).step k (r, n, x)).h r = ((t.chs.take c).foldl (Hd.step k) (hdOf (ixOf us).kinds k)).h r ++ [((k : Int), n)] := by
    show (if r = r then _ else _) = _
    rw [if_pos rfl]
  rw [← hq, e2, List.append_assoc, List.getElem?_append_right (Nat.le_refl _)]
  simp
end Go.Proofs.Qxb6600550a.Idx
