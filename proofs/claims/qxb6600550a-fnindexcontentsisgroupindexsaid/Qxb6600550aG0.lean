import Derived.Test.Qxb6600550aE3
namespace Go.Proofs.Qxb6600550a.Rad
open Go.RowKit Go.Proofs.Qxb6600550a.Idx

theorem kindChar2 (b g n c k : Nat) (g' o' n' c' i : Nat) (r p : Int) (x : Nat) (w : World) (h : w.cell? ⟨b, 0, none⟩ = some (.slice (some ⟨g, 0, none⟩) n c)) (hk : k < n) (hx : w.cell? ⟨g, k * 3 + 1, none⟩ = some (.slice (some ⟨g', o', none⟩) n' c'))
    (hi : i < n') (h0 : w.cell? ⟨g', o' + i * 3, none⟩ = some (.int .i32 r)) (h1 : w.cell? ⟨g', o' + i * 3 + 1, none⟩ = some (.int .i32 p)) (h2 : w.cell? ⟨g', o' + i * 3 + 2, none⟩ = some (.float .f64 x)) :
    Calls Try.prog 31 #[.pointer (some ⟨b, 0, none⟩), .int .i64 (k : Nat), .int .i64 (i : Nat)] w fun e w' => e = .returned (.tuple #[.int .i32 r, .int .i32 p, .float .f64 x]) ∧ ∃ o, w' = (w.alloc o).drew := by
  have hst := store_float w (.int .i32 r) (.int .i32 p) 0 x 68
  go_enter Try.func31, Try.ntmps31
  go_wp2
  go_region
  all_goals
    go_wp2
    go_ret3
    exact ⟨rfl, _, rfl⟩

section
variable {w wr : World} {b : Nat} {ts : List Ct}
theorem IndexAt.kinds (h : IndexAt w wr b ts) : ∃ a c, wr.cell? ⟨b, 0, none⟩ = some (.slice a (ixOf ts).kinds.length c) := by
  obtain ⟨hm, lm, kB, N, vk, vc, gm, gf, gs, gu, M, h1, _⟩ := h
  obtain ⟨a, c, rfl⟩ := own_shape h1.ks
  exact ⟨a, c, (h1.cell (i := 0) rfl).1⟩
theorem IndexAt.kind (h : IndexAt w wr b ts) {k : Nat} {t : Ct} (ht : (ixOf ts).kinds[k]? = some t) : ∃ g c, wr.cell? ⟨b, 0, none⟩ = some (.slice (some ⟨g, 0, none⟩) (ixOf ts).kinds.length c) ∧ k < (ixOf ts).kinds.length ∧
    wr.cell? ⟨g, k * 3, none⟩ = some (.int .i64 t.g) ∧ wr.cell? ⟨g, k * 3 + 1, none⟩ = some (.slice t.a t.l t.c) ∧ wr.cell? ⟨g, k * 3 + 2, none⟩ = some (.float .f64 t.wt) := by
  obtain ⟨hm, lm, kB, N, vk, vc, gm, gf, gs, gu, M, h1, _⟩ := h
  obtain ⟨a, b', c⟩ := kcells_at _ k t ht
  have hk := (List.getElem?_eq_some_iff.1 ht).1
  obtain ⟨g, cap, rfl, _, _, hc, _, _⟩ := own_cell h1.ks (List.getElem?_eq_some_iff.1 a).1
  exact ⟨g, cap, (h1.cell (i := 0) rfl).1, hk, hc _ _ a, hc _ _ b', hc _ _ c⟩
theorem IndexAt.kindCount (h : IndexAt w wr b ts) : Calls Try.prog 20 #[.pointer (some ⟨b, 0, none⟩)] wr fun e w' => e = .returned (.int .i64 ((ixOf ts).kinds.length : Nat)) ∧ w' = wr := by
  obtain ⟨a, c, hc⟩ := h.kinds
  exact kindCount_any b a _ c wr hc
theorem IndexAt.members (h : IndexAt w wr b ts) : ∃ gm M, first (ixOf ts).count (ixOf ts).count.length = (M : Nat) ∧ VRow wr gm M 21 (fun i => .int .i32 ((memAt (ixOf ts).kindOf (ixOf ts).count ts ts.length).1 i)) ∧ Calls Try.prog 22 #[.pointer (some ⟨b, 0, none⟩)] wr fun e w' => e = .returned (.slice (some ⟨gm, 0, none⟩) M M) ∧ w' = wr := by
  obtain ⟨hm, lm, kB, N, vk, vc, gm, gf, gs, gu, M, h1, h2, h3, _⟩ := h
  exact ⟨gm, M, h2, h3, members_any b _ M M wr (h1.cell (i := 1) rfl).1⟩
theorem IndexAt.firsts (h : IndexAt w wr b ts) : ∃ gf, VRow wr gf ((ixOf ts).count.length + 1) 21 (fun i => .int .i32 (first (ixOf ts).count i)) ∧ Calls Try.prog 23 #[.pointer (some ⟨b, 0, none⟩)] wr fun e w' => e = .returned (.slice (some ⟨gf, 0, none⟩) ((ixOf ts).count.length + 1) ((ixOf ts).count.length + 1)) ∧ w' = wr := by
  obtain ⟨hm, lm, kB, N, vk, vc, gm, gf, gs, gu, M, h1, h2, h3, h4, _⟩ := h
  exact ⟨gf, h4, firstMember_any b _ _ _ wr (h1.cell (i := 2) rfl).1⟩
theorem IndexAt.runes (h : IndexAt w wr b ts) : Calls Try.prog 24 #[.pointer (some ⟨b, 0, none⟩)] wr fun e w' => e = .returned (.int .i64 ((ixOf ts).hd.n : Nat)) ∧ w' = wr := by
  obtain ⟨hm, lm, kB, N, vk, vc, gm, gf, gs, gu, M, h1, _⟩ := h
  obtain ⟨F, hF⟩ := h1.core.hold
  exact holdingsRunes_any b hm F _ wr (h1.cell (i := 3) rfl).1 hF.map
theorem IndexAt.lessCount (h : IndexAt w wr b ts) : Calls Try.prog 25 #[.pointer (some ⟨b, 0, none⟩)] wr fun e w' => e = .returned (.int .i64 ((ixOf ts).nless : Nat)) ∧ w' = wr := by
  obtain ⟨hm, lm, kB, N, vk, vc, gm, gf, gs, gu, M, h1, _⟩ := h
  exact letterlessCount_any b lm _ _ wr (h1.cell (i := 4) rfl).1 h1.core.less
theorem IndexAt.group (h : IndexAt w wr b ts) {k : Nat} {t : Ct} (ht : (ixOf ts).kinds[k]? = some t) : Calls Try.prog 26 #[.pointer (some ⟨b, 0, none⟩), .int .i64 (k : Nat)] wr fun e w' => e = .returned (.int .i64 t.g) ∧ w' = wr := by
  obtain ⟨g, c, h0, hk, h1, h2, h3⟩ := h.kind ht
  exact kindGroup_any b g _ c k t.g wr h0 hk h1
theorem IndexAt.weight (h : IndexAt w wr b ts) {k : Nat} {t : Ct} (ht : (ixOf ts).kinds[k]? = some t) : Calls Try.prog 28 #[.pointer (some ⟨b, 0, none⟩), .int .i64 (k : Nat)] wr fun e w' => e = .returned (.float .f64 t.wt) ∧ w' = wr := by
  obtain ⟨g, c, h0, hk, h1, h2, h3⟩ := h.kind ht
  exact kindWeight_any b g _ c k t.wt wr h0 hk h3
theorem IndexAt.charsLen (h : IndexAt w wr b ts) {k : Nat} {t : Ct} (ht : (ixOf ts).kinds[k]? = some t) : Calls Try.prog 30 #[.pointer (some ⟨b, 0, none⟩), .int .i64 (k : Nat)] wr fun e w' => e = .returned (.int .i64 (t.l : Nat)) ∧ w' = wr := by
  obtain ⟨g, c, h0, hk, h1, h2, h3⟩ := h.kind ht
  exact kindCharsLen_any b g _ c k t.a t.l t.c wr h0 hk h2
theorem IndexAt.letterless (h : IndexAt w wr b ts) (x : Int) : Calls Try.prog 29 #[.pointer (some ⟨b, 0, none⟩), .int .i64 x] wr fun e w' => e = .returned (.tuple #[.int .i32 (((ixOf ts).less x).getD 0), .bool ((ixOf ts).less x).isSome]) ∧ w' = wr := by
  obtain ⟨hm, lm, kB, N, vk, vc, gm, gf, gs, gu, M, h1, _⟩ := h
  exact letterless_any b lm _ _ x _ _ wr (h1.cell (i := 4) rfl).1 h1.core.less (by cases (ixOf ts).less x <;> rfl) (by simp)
theorem IndexAt.char (h : IndexAt w wr b ts) {k : Nat} {t : Ct} (ht : (ixOf ts).kinds[k]? = some t) (hc : ChRow wr t.a t.l t.chs) {i : Nat} {r p : Int} {x : Nat} (hi : t.chs[i]? = some (r, p, x)) :
    Calls Try.prog 31 #[.pointer (some ⟨b, 0, none⟩), .int .i64 (k : Nat), .int .i64 (i : Nat)] wr fun e w' => e = .returned (.tuple #[.int .i32 r, .int .i32 p, .float .f64 x]) ∧ ∃ o, w' = (wr.alloc o).drew := by
  obtain ⟨g, c, h0, hk, h1, h2, h3⟩ := h.kind ht
  have hl : i < t.l := by rw [← hc.1]; exact (List.getElem?_eq_some_iff.1 hi).1
  obtain ⟨cb, co, e, _, hcc⟩ := hc.2 (by omega)
  obtain ⟨c0, c1, c2⟩ := hcc i r p x hi
  rw [e] at h2
  exact kindChar2 b g _ c k cb co t.l t.c i r p x wr h0 hk h2 hl c0 c1 c2
theorem IndexAt.hlen (h : IndexAt w wr b ts) (x : Int) : Calls Try.prog 32 #[.pointer (some ⟨b, 0, none⟩), .int .i32 x] wr fun e w' => e = .returned (.int .i64 (((ixOf ts).hd.h x).length : Nat)) ∧ w' = wr := by
  obtain ⟨hm, lm, kB, N, vk, vc, gm, gf, gs, gu, M, h1, _⟩ := h
  obtain ⟨F, hF⟩ := h1.core.hold
  obtain ⟨a, c, e⟩ := own_shape (hF.cur x)
  exact holdingsLen_any b hm F _ x a _ c wr (h1.cell (i := 3) rfl).1 hF.map e
theorem IndexAt.holding (h : IndexAt w wr b ts) (x : Int) {i : Nat} {p : Int × Int} (hi : ((ixOf ts).hd.h x)[i]? = some p) : Calls Try.prog 33 #[.pointer (some ⟨b, 0, none⟩), .int .i32 x, .int .i64 (i : Nat)] wr fun e w' => e = .returned (.tuple #[.int .i32 p.1, .int .i32 p.2]) ∧ ∃ o, w' = (wr.alloc o).drew := by
  obtain ⟨hm, lm, kB, N, vk, vc, gm, gf, gs, gu, M, h1, _⟩ := h
  obtain ⟨F, hF⟩ := h1.core.hold
  obtain ⟨a, c⟩ := hcells_at _ i p hi
  obtain ⟨g, cap, e, _, _, hc, _, _⟩ := own_cell (hF.cur x) (List.getElem?_eq_some_iff.1 a).1
  exact holding_any b hm F _ x g _ cap i p.1 p.2 wr (h1.cell (i := 3) rfl).1 hF.map e (List.getElem?_eq_some_iff.1 hi).1 (hc _ _ a) (hc _ _ c)
theorem IndexAt.bel (h : IndexAt w wr b ts) : Below w.heap.size w wr := by
  obtain ⟨hm, lm, kB, N, vk, vc, gm, gf, gs, gu, M, h1, _⟩ := h
  exact h1.core.bel
end

theorem kinds_mem (ts : List Ct) : ∀ t ∈ (ixOf ts).kinds, t ∈ ts := by
  have key : ∀ (us : List Ct) (s : Ix) (vs : List Ct), (∀ t ∈ s.kinds, t ∈ vs) → ∀ t ∈ (us.foldl Ix.step s).kinds, t ∈ vs ++ us := by
    intro us
    induction us with
    | nil => intro s vs h t ht; simpa using h t ht
    | cons u r ih =>
      intro s vs h t ht
      have h2 : ∀ t ∈ (s.step u).kinds, t ∈ vs ++ [u] := by
        unfold Ix.step
        by_cases h0 : u.g = 0
        · rw [if_pos h0]; intro t ht; simp [h t ht]
        · rw [if_neg h0]
          by_cases hk : s.kindOf u.g < 0
          · rw [if_pos hk]
            intro t ht
            have ht : t ∈ s.kinds ++ [u] := ht
            rcases List.mem_append.1 ht with h' | h'
            · simp [h t h']
            · simp at h'; simp [h']
          · rw [if_neg hk]
            intro t ht
            have ht : t ∈ s.kinds := ht
            simp [h t ht]
      have := ih (s.step u) (vs ++ [u]) h2 t ht
      simpa using this
  have := key ts Ix.none [] (by simp [Ix.none])
  simpa [ixOf] using this

/-- ZZIndexContents. -/
theorem zzindex_any (G n : Nat) (ts : List Ct) (w : World) (hn : n ≤ 32768) (h : CtRow w G 0 n ts) (hlen : ∀ t ∈ ts, t.l ≤ 65536) (hg : ∀ t ∈ ts, 0 ≤ t.g ∧ t.g ≤ 98304) :
    Calls Try.prog 16 #[.slice (some ⟨G, 0, none⟩) n n] w fun e w' => ∃ b : Nat, e = .returned (.pointer (some ⟨b, 0, none⟩)) ∧ IndexAt w w' b ts := by
  have H := index_any G n ts w hn h hlen hg
  have HH : Hid (Calls Try.prog 36 #[.slice (some ⟨G, 0, none⟩) n n] w fun e w' => ∃ b : Nat, e = .returned (.pointer (some ⟨b, 0, none⟩)) ∧ IndexAt w w' b ts) := H
  clear H h hlen hg
  go_enter Try.func16, Try.ntmps16
  go_wp2_with fail
  refine HH.out.mono ?_
  rintro e w' ⟨b, rfl, h1⟩
  have H1 : Hid (IndexAt w w' b ts) := h1
  clear h1 HH
  go_wp2
  go_ret
  exact ⟨b, rfl, H1.out⟩
end Go.Proofs.Qxb6600550a.Rad
