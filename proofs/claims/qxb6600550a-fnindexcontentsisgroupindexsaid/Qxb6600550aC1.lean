import GoSem.Core.Value
namespace Go.Proofs.Qxb6600550a.Idx
/-! The index of contents, plain. -/

/-- A character: rune, number, weight (a float's bits). -/
abbrev Ch := Int × Int × Nat
/-- A content: its group, its slice of characters as it lies in memory and what it holds, its weight. -/
structure Ct where
  g : Int
  a : Option Addr
  l : Nat
  c : Nat
  chs : List Ch
  wt : Nat

def upd {β : Type} (f : Int → β) (x : Int) (v : β) : Int → β := fun a => if a = x then v else f a

/-- The holdings behind one more character of kind k. -/
def hput (k : Int) (h : Int → List (Int × Int)) (c : Ch) : Int → List (Int × Int) := upd h c.1 (h c.1 ++ [(k, c.2.1)])
def hnum (h : Int → List (Int × Int)) (n : Nat) (c : Ch) : Nat := if h c.1 = [] then n + 1 else n
structure Hd where
  h : Int → List (Int × Int)
  n : Nat
def Hd.step (k : Int) (s : Hd) (c : Ch) : Hd := ⟨hput k s.h c, hnum s.h s.n c⟩

/-- The index behind some contents. -/
structure Ix where
  kinds : List Ct
  kindOf : Int → Int
  count : List Int
  less : Int → Option Int
  nless : Nat
  hd : Hd

def Ix.none : Ix := ⟨[], fun _ => -1, [], fun _ => .none, 0, ⟨fun _ => [], 0⟩⟩
/-- A group that is new. -/
def Ix.more (s : Ix) (t : Ct) : Ix :=
  { kinds := s.kinds ++ [t], kindOf := upd s.kindOf t.g s.kinds.length, count := s.count ++ [0],
    less := if t.chs = [] then upd s.less t.g (some (s.kinds.length : Int)) else s.less,
    nless := if t.chs = [] then (if (s.less t.g).isSome then s.nless else s.nless + 1) else s.nless,
    hd := t.chs.foldl (Hd.step s.kinds.length) s.hd }
/-- One more of its group. -/
def Ix.bump (s : Ix) (g : Int) : Ix := { s with count := s.count.set (s.kindOf g).toNat (s.count.getD (s.kindOf g).toNat 0 + 1) }
def Ix.step (s : Ix) (t : Ct) : Ix := if t.g = 0 then s else (if s.kindOf t.g < 0 then s.more t else s).bump t.g
def ixOf (ts : List Ct) : Ix := ts.foldl Ix.step Ix.none
theorem ixOf_take (ts : List Ct) (j : Nat) (t : Ct) (h : ts[j]? = some t) : ixOf (ts.take (j + 1)) = (ixOf (ts.take j)).step t := by
  have hj : j < ts.length := (List.getElem?_eq_some_iff.1 h).1
  have e : ts[j] = t := by rw [List.getElem?_eq_getElem hj] at h; exact Option.some.inj h
  unfold ixOf
  rw [List.take_succ_eq_append_getElem hj, List.foldl_append, e]
  rfl

/-- How many of ts bear a group of kind k. -/
def cnt (kindOf : Int → Int) (ts : List Ct) (k : Nat) : Nat := (ts.filter (fun t => decide (t.g ≠ 0) && decide (kindOf t.g = (k : Int)))).length

/-- What holds of the index at every time. -/
structure Ok (s : Ix) (ts : List Ct) : Prop where
  len : s.count.length = s.kinds.length
  le : s.kinds.length ≤ ts.length
  rng : ∀ g, s.kindOf g = -1 ∨ (0 ≤ s.kindOf g ∧ s.kindOf g < s.kinds.length)
  seen : ∀ t ∈ ts, t.g ≠ 0 → 0 ≤ s.kindOf t.g
  new : ∀ g, 0 ≤ s.kindOf g → ∃ t ∈ ts, t.g = g ∧ t.g ≠ 0
  inj : ∀ g g', 0 ≤ s.kindOf g → s.kindOf g = s.kindOf g' → g = g'
  kind : ∀ (k : Nat) t, s.kinds[k]? = some t → t.g ≠ 0 ∧ s.kindOf t.g = (k : Int)
  num : ∀ k, k < s.kinds.length → s.count[k]? = some (cnt s.kindOf ts k : Int)

theorem ok_none : Ok Ix.none [] := by
  refine ⟨rfl, Nat.le_refl _, fun g => .inl rfl, by simp, fun g h => by simp [Ix.none] at h, fun g g' h => by simp [Ix.none] at h, by simp [Ix.none], by simp [Ix.none]⟩

theorem cnt_snoc (f : Int → Int) (ts : List Ct) (t : Ct) (k : Nat) : cnt f (ts ++ [t]) k = cnt f ts k + (if t.g ≠ 0 ∧ f t.g = (k : Int) then 1 else 0) := by
  unfold cnt
  rw [List.filter_append, List.length_append]
  by_cases h1 : t.g ≠ 0 <;> by_cases h2 : f t.g = (k : Int) <;> simp [h1, h2]
theorem cnt_congr (f f' : Int → Int) (ts : List Ct) (k : Nat) (h : ∀ t ∈ ts, t.g ≠ 0 → f t.g = f' t.g) : cnt f ts k = cnt f' ts k := by
  unfold cnt
  congr 1
  refine List.filter_congr (fun t ht => ?_)
  by_cases h1 : t.g = 0
  · simp [h1]
  · rw [h t ht h1]

theorem Ok.step {s : Ix} {ts : List Ct} (o : Ok s ts) (t : Ct) : Ok (s.step t) (ts ++ [t]) := by
  unfold Ix.step
  by_cases h0 : t.g = 0
  · rw [if_pos h0]
    refine ⟨o.len, by simp; have := o.le; omega, o.rng, fun u hu hg => ?_, fun g hg => ?_, o.inj, o.kind, fun k hk => ?_⟩
    · rcases List.mem_append.1 hu with hu | hu
      · exact o.seen u hu hg
      · simp at hu; subst hu; exact absurd h0 hg
    · obtain ⟨u, hu, e⟩ := o.new g hg
      exact ⟨u, by simp [hu], e⟩
    · rw [o.num k hk, cnt_snoc, if_neg (by simp [h0])]; simp
  · rw [if_neg h0]
    by_cases hk : s.kindOf t.g < 0
    · rw [if_pos hk]
      have hkl : (upd s.kindOf t.g (s.kinds.length : Int)) t.g = s.kinds.length := by simp [upd]
      have hne : ∀ g, g ≠ t.g → (upd s.kindOf t.g (s.kinds.length : Int)) g = s.kindOf g := fun g hg => by simp [upd, hg]
      have hno : ∀ u ∈ ts, u.g ≠ 0 → u.g ≠ t.g := fun u hu hg e => by
        have := o.seen u hu hg
        rw [e] at this
        omega
      refine ⟨?_, ?_, ?_, ?_, ?_, ?_, ?_, ?_⟩
      · simp [Ix.more, Ix.bump, o.len]
      · simp [Ix.more, Ix.bump]; exact o.le
      · intro g
        show (upd s.kindOf t.g (s.kinds.length : Int)) g = -1 ∨ _
        by_cases hg : g = t.g
        · subst hg
          right
          show 0 ≤ (upd s.kindOf t.g (s.kinds.length : Int)) t.g ∧ (upd s.kindOf t.g (s.kinds.length : Int)) t.g < ((s.kinds ++ [t]).length : Nat)
          rw [hkl]; simp; omega
        · rcases o.rng g with h | ⟨h1, h2⟩
          · left; rw [hne g hg]; exact h
          · right
            show 0 ≤ (upd s.kindOf t.g (s.kinds.length : Int)) g ∧ (upd s.kindOf t.g (s.kinds.length : Int)) g < ((s.kinds ++ [t]).length : Nat)
            rw [hne g hg]; simp; omega
      · intro u hu hg
        show 0 ≤ (upd s.kindOf t.g (s.kinds.length : Int)) u.g
        by_cases he : u.g = t.g
        · rw [he, hkl]; omega
        · rw [hne _ he]
          rcases List.mem_append.1 hu with hu | hu
          · exact o.seen u hu hg
          · simp at hu; subst hu; exact absurd rfl he
      · intro g hg
        by_cases he : g = t.g
        · exact ⟨t, by simp, he.symm, h0⟩
        · have hg' : 0 ≤ s.kindOf g := by rw [← hne g he]; exact hg
          obtain ⟨u, hu, e⟩ := o.new g hg'
          exact ⟨u, by simp [hu], e⟩
      · intro g g' hg hgg
        have hg : 0 ≤ (upd s.kindOf t.g (s.kinds.length : Int)) g := hg
        have hgg : (upd s.kindOf t.g (s.kinds.length : Int)) g = (upd s.kindOf t.g (s.kinds.length : Int)) g' := hgg
        by_cases he : g = t.g
        · by_cases he' : g' = t.g
          · rw [he, he']
          · rw [he, hkl, hne _ he'] at hgg
            rcases o.rng g' with h | ⟨h1, h2⟩ <;> omega
        · by_cases he' : g' = t.g
          · rw [he', hkl, hne _ he] at hgg
            rcases o.rng g with h | ⟨h1, h2⟩ <;> omega
          · rw [hne _ he] at hg hgg
            rw [hne _ he'] at hgg
            exact o.inj g g' hg hgg
      · intro k u hu
        have hu : (s.kinds ++ [t])[k]? = some u := hu
        show u.g ≠ 0 ∧ (upd s.kindOf t.g (s.kinds.length : Int)) u.g = (k : Int)
        by_cases hkk : k < s.kinds.length
        · rw [List.getElem?_append_left hkk] at hu
          obtain ⟨a1, a2⟩ := o.kind k u hu
          refine ⟨a1, ?_⟩
          rw [hne _ (fun e => by rw [e] at a2; omega)]; exact a2
        · have hl : k < s.kinds.length + 1 := by have := (List.getElem?_eq_some_iff.1 hu).1; simpa using this
          obtain rfl : k = s.kinds.length := by omega
          simp at hu; subst hu
          exact ⟨h0, hkl⟩
      · intro k hkl'
        have hkl' : k < (s.kinds ++ [t]).length := hkl'
        show ((s.count ++ [0]).set ((upd s.kindOf t.g (s.kinds.length : Int)) t.g).toNat ((s.count ++ [0]).getD ((upd s.kindOf t.g (s.kinds.length : Int)) t.g).toNat 0 + 1))[k]? = some (cnt (upd s.kindOf t.g (s.kinds.length : Int)) (ts ++ [t]) k : Int)
        rw [hkl, cnt_snoc, cnt_congr _ s.kindOf ts k (fun u hu hg => hne _ (hno u hu hg)), hkl, Int.toNat_natCast]
        by_cases hkk : k < s.kinds.length
        · rw [List.getElem?_set_ne (by omega), List.getElem?_append_left (by rw [o.len]; exact hkk), o.num k hkk, if_neg (by omega)]; simp
        · have : k = s.kinds.length := by simp at hkl'; omega
          subst this
          have hz : cnt s.kindOf ts s.kinds.length = 0 := by
            unfold cnt
            rw [List.length_eq_zero_iff, List.filter_eq_nil_iff]
            intro u hu
            simp only [Bool.and_eq_true, decide_eq_true_eq, not_and]
            intro hg e
            rcases o.rng u.g with h | ⟨h1, h2⟩ <;> omega
          rw [hz, if_pos ⟨h0, rfl⟩, List.getElem?_set_self (by simp [o.len])]
          simp [← o.len]
    · rw [if_neg hk]
      have hrg : 0 ≤ s.kindOf t.g ∧ s.kindOf t.g < s.kinds.length := by
        rcases o.rng t.g with h | h
        · omega
        · exact h
      refine ⟨by simp [Ix.bump, o.len], by simp [Ix.bump]; have := o.le; omega, o.rng, fun u hu hg => ?_, fun g hg => ?_, o.inj, o.kind, fun k hkk => ?_⟩
      · show 0 ≤ s.kindOf u.g
        rcases List.mem_append.1 hu with hu | hu
        · exact o.seen u hu hg
        · simp at hu; subst hu; omega
      · obtain ⟨u, hu, e⟩ := o.new g hg
        exact ⟨u, by simp [hu], e⟩
      · have hkk : k < s.kinds.length := hkk
        show (s.count.set (s.kindOf t.g).toNat (s.count.getD (s.kindOf t.g).toNat 0 + 1))[k]? = some (cnt s.kindOf (ts ++ [t]) k : Int)
        rw [cnt_snoc]
        by_cases he : s.kindOf t.g = (k : Int)
        · rw [he, Int.toNat_natCast, List.getElem?_set_self (by rw [o.len]; exact hkk), if_pos ⟨h0, rfl⟩, List.getD_eq_getElem?_getD, o.num k hkk]; simp
        · rw [List.getElem?_set_ne (by omega), if_neg (by omega), o.num k hkk]; simp

theorem ok_ixOf (ts : List Ct) : Ok (ixOf ts) ts := by
  have key : ∀ (us vs : List Ct) (s : Ix), Ok s vs → Ok (us.foldl Ix.step s) (vs ++ us) := by
    intro us
    induction us with
    | nil => intro vs s o; simpa using o
    | cons u r ih =>
      intro vs s o
      have := ih (vs ++ [u]) (s.step u) (o.step u)
      simpa using this
  have := key ts [] Ix.none ok_none
  simpa [ixOf] using this
end Go.Proofs.Qxb6600550a.Idx
