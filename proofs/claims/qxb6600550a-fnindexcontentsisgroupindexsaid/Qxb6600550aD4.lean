import Derived.Test.Qxb6600550aD3
import Derived.Deep.RegionHeld3
namespace Go.Proofs.Qxb6600550a.Rad
open Go.RowKit Go.Proofs.Qxb6600550a.Idx

theorem OutSt.facts {w wr : World} {n : Nat} {sh : Int} {ts us : List Ct} (h : OutSt w wr n sh ts us) (hj : us.length < n) : ∃ u0 u1 u2 : Value,
    (∀ o, (wr.alloc o).cell? ⟨w.heap.size, us.length * 3, none⟩ = some u0) ∧ (∀ o, (wr.alloc o).cell? ⟨w.heap.size, us.length * 3 + 1, none⟩ = some u1) ∧ (∀ o, (wr.alloc o).cell? ⟨w.heap.size, us.length * 3 + 2, none⟩ = some u2) ∧ (∀ o i, (wr.alloc o).frozen? ⟨w.heap.size, i, none⟩ = false) := by
  obtain ⟨u0, u1, u2, a, b, d, f⟩ := h.row.next hj
  have e : ∀ o i, (wr.alloc o).cell? ⟨w.heap.size, i, none⟩ = wr.cell? ⟨w.heap.size, i, none⟩ := fun o i => World.cell?_of_block (Below.heap_alloc _ _ _ h.row.lt)
  exact ⟨u0, u1, u2, fun o => (e o _).trans a, fun o => (e o _).trans b, fun o => (e o _).trans d, fun o i => (World.frozen?_of_block (Below.heap_alloc _ _ _ h.row.lt)).trans (f i)⟩
theorem OutSt.step {w wr : World} {n : Nat} {sh : Int} {ts us : List Ct} (h : OutSt w wr n sh ts us) (hn : us.length < n) {t u : Ct} (ht : ts[us.length]? = some t) (hm : Made sh t u) (hu : NewCh wr w.heap.size u) (o : Obj) :
    OutSt w (put3 (wr.alloc o) w.heap.size (us.length * 3) (.int .i64 u.g) (.slice u.a u.l u.c) (.float .f64 u.wt)) n sh ts (us ++ [u]) := by
  have h1 := h.kept ((Below.refl _ _).alloc (Nat.le_refl _) o)
  exact h1.put hn ht hm (hu.of_heap (fun k hk _ => Below.heap_alloc _ _ _ hk))

theorem store_flt (w : World) (p : Addr) (x : Nat) (h1 : (w.cell? p).isSome = true) (h2 : w.frozen? p = false) : (store p (.float .f64 x)).run Try.prog w = .ok () (w.setCell p (.float .f64 x)) := by
  obtain ⟨u, hu⟩ := Option.isSome_iff_exists.1 h1
  rw [run_store _ _ _ _ _ (by rfl), hu, h2]
  rfl

/-- What the inner loop's region reads. -/
@[reducible] def Four (wx : World) (b cb co l cc c : Nat) (r m : Int) (x : Nat) : Prop :=
  wx.cell? ⟨b, 1, none⟩ = some (.slice (some ⟨cb, co, none⟩) l cc) ∧ wx.cell? ⟨cb, co + c * 3, none⟩ = some (.int .i32 r) ∧ wx.cell? ⟨cb, co + c * 3 + 1, none⟩ = some (.int .i32 m) ∧ wx.cell? ⟨cb, co + c * 3 + 2, none⟩ = some (.float .f64 x)
theorem Four.of {w wx : World} {b cb co l cc c : Nat} {r m : Int} {x : Nat} (h : Four w b cb co l cc c r m x) (e1 : wx.heap[b]? = w.heap[b]?) (e2 : wx.heap[cb]? = w.heap[cb]?) : Four wx b cb co l cc c r m x := by
  obtain ⟨h0, h1, h2, h3⟩ := h
  exact ⟨(World.cell?_of_block e1).trans h0, (World.cell?_of_block e2).trans h1, (World.cell?_of_block e2).trans h2, (World.cell?_of_block e2).trans h3⟩
theorem Four.lt {w : World} {b cb co l cc c : Nat} {r m : Int} {x : Nat} (h : Four w b cb co l cc c r m x) : b < w.heap.size ∧ cb < w.heap.size :=
  ⟨World.block_lt_of_cell? w _ h.1, World.block_lt_of_cell? w _ h.2.1⟩
theorem Four.put {w : World} {b cb co l cc c : Nat} {r m : Int} {x : Nat} (h : Four w b cb co l cc c r m x) {g : Nat} (hg : b < g ∧ cb < g) (o : Obj) (i : Nat) (u0 u1 u2 : Value) : Four (put3 (w.alloc o) g i u0 u1 u2) b cb co l cc c r m x :=
  h.of ((put3_other _ _ _ _ _ _ _ (by omega)).trans (Below.heap_alloc _ _ _ h.lt.1)) ((put3_other _ _ _ _ _ _ _ (by omega)).trans (Below.heap_alloc _ _ _ h.lt.2))

set_option maxRecDepth 100000 in
set_option maxHeartbeats 1600000 in
theorem toCt_row (G off n cap : Nat) (sh : Int) (ts : List Ct) (w : World) (hn : n ≤ 32768) (h : CtRow w G off n ts) (hlen : ∀ t ∈ ts, t.l ≤ 65536) (hg : ∀ t ∈ ts, 0 ≤ t.g ∧ t.g ≤ 65536) (hs : 0 ≤ sh ∧ sh ≤ 32768) :
    Calls Try.prog 17 #[.slice (some ⟨G, off, none⟩) n cap, .int .i64 sh] w fun e w' => e = .returned (.slice (some ⟨w.heap.size, 0, none⟩) n n) ∧ ∃ us, us.length = n ∧ OutSt w w' n sh ts us := by
  obtain ⟨M, hmk, hMb⟩ := make73 n (by omega)
  have HO0 : Hid (OutSt w (w.alloc (.cells M 73)) n sh ts []) := ⟨by simpa using hMb w, by simp, by simp, (Below.refl _ _).alloc (Nat.le_refl _) _⟩
  have HC : Hid (CtRow w G off n ts) := h
  have HL : Hid (∀ t ∈ ts, t.l ≤ 65536) := hlen
  have HG : Hid (∀ t ∈ ts, 0 ≤ t.g ∧ t.g ≤ 65536) := hg
  obtain ⟨hs1, hs2⟩ := hs
  clear hMb h hlen hg
  go_enter Try.func17, Try.ntmps17
  go_wp2
  go_loopw [6] (fun i wr => ∃ j : Nat, j ≤ n ∧ i = .int .i64 j ∧ ∃ us, us.length = j ∧ Hid (OutSt w wr n sh ts us)) (fun i _ => n - (intOf i).toNat)
  case atStart => exact ⟨0, Nat.zero_le _, rfl, [], rfl, HO0⟩
  case round =>
    obtain ⟨j, hj, rfl, us, hus, HO⟩ := hrel
    clear HO0 hmk
    by_cases hlt : j < n
    · obtain ⟨t, ht⟩ : ∃ t, ts[j]? = some t := ⟨_, List.getElem?_eq_getElem (by rw [HC.out.len]; exact hlt)⟩
      have hmem := List.mem_of_getElem? ht
      have hl := HL.out t hmem
      obtain ⟨hg1, hg2⟩ := HG.out t hmem
      obtain ⟨q0, q1, q2⟩ := HC.out.cell j t ht
      have q0 := (HO.out.bel.cell (p := ⟨G, off + j * 3, none⟩) HC.out.lt).trans q0
      have q1 := (HO.out.bel.cell (p := ⟨G, off + j * 3 + 1, none⟩) HC.out.lt).trans q1
      have q2 := (HO.out.bel.cell (p := ⟨G, off + j * 3 + 2, none⟩) HC.out.lt).trans q2
      have HCh : Hid (ChRow wr t.a t.l t.chs) := (HC.out.chs j t ht).kept HO.out.bel
      obtain ⟨g, a, l, c, chs, wt⟩ := t
      dsimp only at hl hg1 hg2 q0 q1 q2 HCh
      have hst := store_float wr (.int .i64 g) (.slice a l c) 0 wt 42
      have hfl := store_flt
      clear hmem
      obtain ⟨wo, rfl⟩ : ∃ wo, wo = wr := ⟨_, rfl⟩
      by_cases h0 : g = 0
      · subst h0
        cases a with
        | none =>
          obtain rfl : l = 0 := by
            rcases Nat.eq_zero_or_pos l with h | h
            · exact h
            · obtain ⟨b, o, e, _⟩ := HCh.out.2 h; cases e
          obtain rfl : chs = [] := List.eq_nil_of_length_eq_zero HCh.out.1
          have HX : Hid (OutSt w (wo.alloc (.cells #[.int .i64 0, .slice none 0 c, .float .f64 wt] 42)) n sh ts us) := HO.out.kept ((Below.refl _ _).alloc (Nat.le_refl _) _)
          have HN : Hid (NewCh (wo.alloc (.cells #[.int .i64 0, .slice none 0 c, .float .f64 wt] 42)) w.heap.size ⟨0, none, 0, 0, [], wt⟩) := ⟨rfl, fun h => by simp at h⟩
          obtain ⟨u0, u1, u2, f0, f1, f2, f3⟩ := HX.out.facts (by omega)
          rw [hus] at f0 f1 f2
          clear HO HCh
          go_wp2
          refine wp_loop_rounds 1 ?_
          rw [rounds_succ]
          have HST : Hid (∀ o, OutSt w (put3 ((wo.alloc (.cells #[.int .i64 0, .slice none 0 c, .float .f64 wt] 42)).alloc o) w.heap.size (j * 3) (.int .i64 0) (.slice none 0 0) (.float .f64 wt)) n sh ts (us ++ [⟨0, none, 0, 0, [], wt⟩])) := fun o => by
            have := HX.out.step (t := ⟨0, none, 0, c, [], wt⟩) (u := ⟨0, none, 0, 0, [], wt⟩) (by omega) (by rw [hus]; exact ht) ⟨by simp, rfl, rfl, rfl⟩ HN.out o
            rwa [hus] at this
          clear HX HN
          go_wp2_with fail
          refine (newContent_any _ _ _ _ _ _).mono ?_
          rintro e w' ⟨rfl, rfl⟩
          go_wp2
          go_roundw
          case rel => exact ⟨j + 1, by omega, by go_num, _, by simp [hus], HST.out _⟩
          case measure => simp [intOf]; omega
        | some ad =>
          obtain ⟨M2, hmk2, hMb2⟩ := make68 l (by omega)
          have HI0 : Hid (CharInv (wo.alloc (.cells #[.int .i64 0, .slice (some ad) l c, .float .f64 wt] 42)) ((wo.alloc (.cells #[.int .i64 0, .slice (some ad) l c, .float .f64 wt] 42)).alloc (.cells M2 68)) l chs 0) := ⟨by simpa using hMb2 (wo.alloc (.cells #[.int .i64 0, .slice (some ad) l c, .float .f64 wt] 42)), (Below.refl _ _).alloc (Nat.le_refl _) _⟩
          have HO1 : Hid (OutSt w (wo.alloc (.cells #[.int .i64 0, .slice (some ad) l c, .float .f64 wt] 42)) n sh ts us) := HO.out.kept ((Below.refl _ _).alloc (Nat.le_refl _) _)
          have HB : Hid (∀ wx, Below (wo.alloc (.cells #[.int .i64 0, .slice (some ad) l c, .float .f64 wt] 42)).heap.size (wo.alloc (.cells #[.int .i64 0, .slice (some ad) l c, .float .f64 wt] 42)) wx → wx.cell? ⟨wo.heap.size, 0, none⟩ = some (.int .i64 0) ∧ wx.cell? ⟨wo.heap.size, 1, none⟩ = some (.slice (some ad) l c) ∧ wx.cell? ⟨wo.heap.size, 2, none⟩ = some (.float .f64 wt)) := fun wx hb => by
            have hn := heap_alloc_new wo (.cells #[.int .i64 0, .slice (some ad) l c, .float .f64 wt] 42)
            have hlt : wo.heap.size < (wo.alloc (.cells #[.int .i64 0, .slice (some ad) l c, .float .f64 wt] 42)).heap.size := by simp
            refine ⟨(hb.cell (p := ⟨wo.heap.size, 0, none⟩) hlt).trans ?_, (hb.cell (p := ⟨wo.heap.size, 1, none⟩) hlt).trans ?_, (hb.cell (p := ⟨wo.heap.size, 2, none⟩) hlt).trans ?_⟩ <;> (rw [cell_of_row _ _ _ _ _ _ hn]; rfl)
          clear hMb2 HO
          go_wp2
          go_loopw [9] (fun i wr => ∃ q : Nat, q ≤ l ∧ i = .int .i64 q ∧ Hid (CharInv (wo.alloc (.cells #[.int .i64 0, .slice (some ad) l c, .float .f64 wt] 42)) wr l chs q)) (fun i _ => l - (intOf i).toNat)
          case atStart => exact ⟨0, Nat.zero_le _, rfl, HI0⟩
          case round =>
            obtain ⟨q, hq, rfl, HI⟩ := hrel
            clear HI0 hmk2
            obtain ⟨b0, b1, b2⟩ := HB.out wr HI.out.bel
            by_cases hql : q < l
            · obtain ⟨cb, co, e, hcb, hcc⟩ := HCh.out.2 (by omega)
              cases e
              obtain ⟨⟨r, m, x⟩, hch⟩ : ∃ ch, chs[q]? = some ch := ⟨_, List.getElem?_eq_getElem (by rw [HCh.out.1]; exact hql)⟩
              obtain ⟨c0, c1, c2⟩ := hcc q r m x hch
              have hsz : (wo.alloc (.cells #[.int .i64 0, .slice (some ⟨cb, co, none⟩) l c, .float .f64 wt] 42)).heap.size = wo.heap.size + 1 := by simp
              have hlt1 : cb < (wo.alloc (.cells #[.int .i64 0, .slice (some ⟨cb, co, none⟩) l c, .float .f64 wt] 42)).heap.size := by simp; omega
              have cc : ∀ i, wr.cell? ⟨cb, i, none⟩ = wo.cell? ⟨cb, i, none⟩ := fun i => (HI.out.bel.cell (p := ⟨cb, i, none⟩) hlt1).trans (World.cell?_of_block (Below.heap_alloc _ _ _ hcb))
              have hF : Four wr wo.heap.size cb co l c q r m x := ⟨b1, (cc _).trans c0, (cc _).trans c1, (cc _).trans c2⟩
              obtain ⟨u0, u1, u2, f0, f1, f2, f3⟩ := HI.out.facts hql
              simp only [hsz] at f0 f1 f2 f3
              have HFa : Hid (∀ o, Four (wr.alloc o).drew wo.heap.size cb co l c q r m x) := fun o => hF.of (Below.heap_alloc _ _ _ hF.lt.1) (Below.heap_alloc _ _ _ hF.lt.2)
              have HFb : Hid (∀ o u0 u1 u2, Four ((((wr.alloc o).setCell ⟨wo.heap.size + 1, q * 3, none⟩ u0).setCell ⟨wo.heap.size + 1, q * 3 + 1, none⟩ u1).setCell ⟨wo.heap.size + 1, q * 3 + 2, none⟩ u2).drew wo.heap.size cb co l c q r m x) := fun o u0 u1 u2 => hF.put (g := wo.heap.size + 1) ⟨by simp, by simpa using hlt1⟩ o (q * 3) u0 u1 u2
              have HST : Hid (∀ o, CharInv (wo.alloc (.cells #[.int .i64 0, .slice (some ⟨cb, co, none⟩) l c, .float .f64 wt] 42)) ((put3 (wr.alloc o) (wo.heap.size + 1) (q * 3) (.int .i32 r) (.int .i32 m) (.float .f64 x)).drewN 1) l chs (q + 1)) := fun o => by have := HI.out.step HCh.out.1 hch o 1; rwa [hsz] at this
              obtain ⟨hF1, hF2, hF3, hF4⟩ := hF
              have HFc : Hid (Four wr.drew wo.heap.size cb co l c q r m x) := ⟨hF1, hF2, hF3, hF4⟩
              clear hsz c0 c1 c2 hcc hch HI cc
              go_wp2
              go_region_held3 (fun wx => wx.cell? ⟨wo.heap.size, 1, none⟩ = some (.slice (some ⟨cb, co, none⟩) l c) ∧ wx.cell? ⟨cb, co + q * 3, none⟩ = some (.int .i32 r) ∧ wx.cell? ⟨cb, co + q * 3 + 1, none⟩ = some (.int .i32 m) ∧ wx.cell? ⟨cb, co + q * 3 + 2, none⟩ = some (.float .f64 x))
                (first | (with_reducible exact HFc.out) | (with_reducible exact HFa.out _) | (with_reducible exact HFb.out _ _ _ _))
                ((go_at_call 37; refine (newChar_any _ _ _ _).mono ?_; rintro e w' ⟨rfl, rfl⟩))
              all_goals
                go_wp2
                go_roundw
                case rel => exact ⟨q + 1, by omega, by go_num, HST.out _⟩
                case measure => simp [intOf]; omega
            · obtain rfl : l = q := by omega
              have HX : Hid (OutSt w wr n sh ts us) := HO1.out.kept HI.out.bel
              have HN : Hid (NewCh wr w.heap.size ⟨0, some ⟨wo.heap.size + 1, 0, none⟩, l, l, chs, wt⟩) := ⟨HCh.out.1, fun _ => ⟨_, rfl, by have := HO1.out.row.lt; simp at this; omega, by
                have := HI.out.row
                rwa [List.take_of_length_le (by rw [HCh.out.1]; exact Nat.le_refl _), show (wo.alloc (.cells #[.int .i64 0, .slice (some ad) l c, .float .f64 wt] 42)).heap.size = wo.heap.size + 1 from by simp] at this⟩⟩
              obtain ⟨u0, u1, u2, f0, f1, f2, f3⟩ := HX.out.facts (by omega)
              rw [hus] at f0 f1 f2
              clear HI HO1 HB HCh
              have HST : Hid (∀ o, OutSt w (put3 (wr.alloc o) w.heap.size (j * 3) (.int .i64 0) (.slice (some ⟨wo.heap.size + 1, 0, none⟩) l l) (.float .f64 wt)) n sh ts (us ++ [⟨0, some ⟨wo.heap.size + 1, 0, none⟩, l, l, chs, wt⟩])) := fun o => by
                have := HX.out.step (t := ⟨0, some ad, l, c, chs, wt⟩) (u := ⟨0, some ⟨wo.heap.size + 1, 0, none⟩, l, l, chs, wt⟩) (by omega) (by rw [hus]; exact ht) ⟨by simp, rfl, rfl, rfl⟩ HN.out o
                rwa [hus] at this
              clear HX HN
              go_wp2_with fail
              refine (newContent_any _ _ _ _ _ _).mono ?_
              rintro e w' ⟨rfl, rfl⟩
              go_wp2
              go_roundw
              case rel => exact ⟨j + 1, by omega, by go_num, _, by simp [hus], HST.out _⟩
              case measure => simp [intOf]; omega
      · cases a with
        | none =>
          obtain rfl : l = 0 := by
            rcases Nat.eq_zero_or_pos l with h | h
            · exact h
            · obtain ⟨b, o, e, _⟩ := HCh.out.2 h; cases e
          obtain rfl : chs = [] := List.eq_nil_of_length_eq_zero HCh.out.1
          have HX : Hid (OutSt w (wo.alloc (.cells #[.int .i64 g, .slice none 0 c, .float .f64 wt] 42)) n sh ts us) := HO.out.kept ((Below.refl _ _).alloc (Nat.le_refl _) _)
          have HN : Hid (NewCh (wo.alloc (.cells #[.int .i64 g, .slice none 0 c, .float .f64 wt] 42)) w.heap.size ⟨(g + sh), none, 0, 0, [], wt⟩) := ⟨rfl, fun h => by simp at h⟩
          obtain ⟨u0, u1, u2, f0, f1, f2, f3⟩ := HX.out.facts (by omega)
          rw [hus] at f0 f1 f2
          clear HO HCh
          go_wp2
          refine wp_loop_rounds 1 ?_
          rw [rounds_succ]
          have HST : Hid (∀ o, OutSt w (put3 ((wo.alloc (.cells #[.int .i64 g, .slice none 0 c, .float .f64 wt] 42)).alloc o) w.heap.size (j * 3) (.int .i64 (g + sh)) (.slice none 0 0) (.float .f64 wt)) n sh ts (us ++ [⟨(g + sh), none, 0, 0, [], wt⟩])) := fun o => by
            have := HX.out.step (t := ⟨g, none, 0, c, [], wt⟩) (u := ⟨(g + sh), none, 0, 0, [], wt⟩) (by omega) (by rw [hus]; exact ht) ⟨by simp [h0], rfl, rfl, rfl⟩ HN.out o
            rwa [hus] at this
          clear HX HN
          go_wp2_with fail
          refine (newContent_any _ _ _ _ _ _).mono ?_
          rintro e w' ⟨rfl, rfl⟩
          go_wp2
          go_roundw
          case rel => exact ⟨j + 1, by omega, by go_num, _, by simp [hus], HST.out _⟩
          case measure => simp [intOf]; omega
        | some ad =>
          obtain ⟨M2, hmk2, hMb2⟩ := make68 l (by omega)
          have HI0 : Hid (CharInv (wo.alloc (.cells #[.int .i64 g, .slice (some ad) l c, .float .f64 wt] 42)) ((wo.alloc (.cells #[.int .i64 g, .slice (some ad) l c, .float .f64 wt] 42)).alloc (.cells M2 68)) l chs 0) := ⟨by simpa using hMb2 (wo.alloc (.cells #[.int .i64 g, .slice (some ad) l c, .float .f64 wt] 42)), (Below.refl _ _).alloc (Nat.le_refl _) _⟩
          have HO1 : Hid (OutSt w (wo.alloc (.cells #[.int .i64 g, .slice (some ad) l c, .float .f64 wt] 42)) n sh ts us) := HO.out.kept ((Below.refl _ _).alloc (Nat.le_refl _) _)
          have HB : Hid (∀ wx, Below (wo.alloc (.cells #[.int .i64 g, .slice (some ad) l c, .float .f64 wt] 42)).heap.size (wo.alloc (.cells #[.int .i64 g, .slice (some ad) l c, .float .f64 wt] 42)) wx → wx.cell? ⟨wo.heap.size, 0, none⟩ = some (.int .i64 g) ∧ wx.cell? ⟨wo.heap.size, 1, none⟩ = some (.slice (some ad) l c) ∧ wx.cell? ⟨wo.heap.size, 2, none⟩ = some (.float .f64 wt)) := fun wx hb => by
            have hn := heap_alloc_new wo (.cells #[.int .i64 g, .slice (some ad) l c, .float .f64 wt] 42)
            have hlt : wo.heap.size < (wo.alloc (.cells #[.int .i64 g, .slice (some ad) l c, .float .f64 wt] 42)).heap.size := by simp
            refine ⟨(hb.cell (p := ⟨wo.heap.size, 0, none⟩) hlt).trans ?_, (hb.cell (p := ⟨wo.heap.size, 1, none⟩) hlt).trans ?_, (hb.cell (p := ⟨wo.heap.size, 2, none⟩) hlt).trans ?_⟩ <;> (rw [cell_of_row _ _ _ _ _ _ hn]; rfl)
          clear hMb2 HO
          go_wp2
          go_loopw [9] (fun i wr => ∃ q : Nat, q ≤ l ∧ i = .int .i64 q ∧ Hid (CharInv (wo.alloc (.cells #[.int .i64 g, .slice (some ad) l c, .float .f64 wt] 42)) wr l chs q)) (fun i _ => l - (intOf i).toNat)
          case atStart => exact ⟨0, Nat.zero_le _, rfl, HI0⟩
          case round =>
            obtain ⟨q, hq, rfl, HI⟩ := hrel
            clear HI0 hmk2
            obtain ⟨b0, b1, b2⟩ := HB.out wr HI.out.bel
            by_cases hql : q < l
            · obtain ⟨cb, co, e, hcb, hcc⟩ := HCh.out.2 (by omega)
              cases e
              obtain ⟨⟨r, m, x⟩, hch⟩ : ∃ ch, chs[q]? = some ch := ⟨_, List.getElem?_eq_getElem (by rw [HCh.out.1]; exact hql)⟩
              obtain ⟨c0, c1, c2⟩ := hcc q r m x hch
              have hsz : (wo.alloc (.cells #[.int .i64 g, .slice (some ⟨cb, co, none⟩) l c, .float .f64 wt] 42)).heap.size = wo.heap.size + 1 := by simp
              have hlt1 : cb < (wo.alloc (.cells #[.int .i64 g, .slice (some ⟨cb, co, none⟩) l c, .float .f64 wt] 42)).heap.size := by simp; omega
              have cc : ∀ i, wr.cell? ⟨cb, i, none⟩ = wo.cell? ⟨cb, i, none⟩ := fun i => (HI.out.bel.cell (p := ⟨cb, i, none⟩) hlt1).trans (World.cell?_of_block (Below.heap_alloc _ _ _ hcb))
              have hF : Four wr wo.heap.size cb co l c q r m x := ⟨b1, (cc _).trans c0, (cc _).trans c1, (cc _).trans c2⟩
              obtain ⟨u0, u1, u2, f0, f1, f2, f3⟩ := HI.out.facts hql
              simp only [hsz] at f0 f1 f2 f3
              have HFa : Hid (∀ o, Four (wr.alloc o).drew wo.heap.size cb co l c q r m x) := fun o => hF.of (Below.heap_alloc _ _ _ hF.lt.1) (Below.heap_alloc _ _ _ hF.lt.2)
              have HFb : Hid (∀ o u0 u1 u2, Four ((((wr.alloc o).setCell ⟨wo.heap.size + 1, q * 3, none⟩ u0).setCell ⟨wo.heap.size + 1, q * 3 + 1, none⟩ u1).setCell ⟨wo.heap.size + 1, q * 3 + 2, none⟩ u2).drew wo.heap.size cb co l c q r m x) := fun o u0 u1 u2 => hF.put (g := wo.heap.size + 1) ⟨by simp, by simpa using hlt1⟩ o (q * 3) u0 u1 u2
              have HST : Hid (∀ o, CharInv (wo.alloc (.cells #[.int .i64 g, .slice (some ⟨cb, co, none⟩) l c, .float .f64 wt] 42)) ((put3 (wr.alloc o) (wo.heap.size + 1) (q * 3) (.int .i32 r) (.int .i32 m) (.float .f64 x)).drewN 1) l chs (q + 1)) := fun o => by have := HI.out.step HCh.out.1 hch o 1; rwa [hsz] at this
              obtain ⟨hF1, hF2, hF3, hF4⟩ := hF
              have HFc : Hid (Four wr.drew wo.heap.size cb co l c q r m x) := ⟨hF1, hF2, hF3, hF4⟩
              clear hsz c0 c1 c2 hcc hch HI cc
              go_wp2
              go_region_held3 (fun wx => wx.cell? ⟨wo.heap.size, 1, none⟩ = some (.slice (some ⟨cb, co, none⟩) l c) ∧ wx.cell? ⟨cb, co + q * 3, none⟩ = some (.int .i32 r) ∧ wx.cell? ⟨cb, co + q * 3 + 1, none⟩ = some (.int .i32 m) ∧ wx.cell? ⟨cb, co + q * 3 + 2, none⟩ = some (.float .f64 x))
                (first | (with_reducible exact HFc.out) | (with_reducible exact HFa.out _) | (with_reducible exact HFb.out _ _ _ _))
                ((go_at_call 37; refine (newChar_any _ _ _ _).mono ?_; rintro e w' ⟨rfl, rfl⟩))
              all_goals
                go_wp2
                go_roundw
                case rel => exact ⟨q + 1, by omega, by go_num, HST.out _⟩
                case measure => simp [intOf]; omega
            · obtain rfl : l = q := by omega
              have HX : Hid (OutSt w wr n sh ts us) := HO1.out.kept HI.out.bel
              have HN : Hid (NewCh wr w.heap.size ⟨(g + sh), some ⟨wo.heap.size + 1, 0, none⟩, l, l, chs, wt⟩) := ⟨HCh.out.1, fun _ => ⟨_, rfl, by have := HO1.out.row.lt; simp at this; omega, by
                have := HI.out.row
                rwa [List.take_of_length_le (by rw [HCh.out.1]; exact Nat.le_refl _), show (wo.alloc (.cells #[.int .i64 g, .slice (some ad) l c, .float .f64 wt] 42)).heap.size = wo.heap.size + 1 from by simp] at this⟩⟩
              obtain ⟨u0, u1, u2, f0, f1, f2, f3⟩ := HX.out.facts (by omega)
              rw [hus] at f0 f1 f2
              clear HI HO1 HB HCh
              have HST : Hid (∀ o, OutSt w (put3 (wr.alloc o) w.heap.size (j * 3) (.int .i64 (g + sh)) (.slice (some ⟨wo.heap.size + 1, 0, none⟩) l l) (.float .f64 wt)) n sh ts (us ++ [⟨(g + sh), some ⟨wo.heap.size + 1, 0, none⟩, l, l, chs, wt⟩])) := fun o => by
                have := HX.out.step (t := ⟨g, some ad, l, c, chs, wt⟩) (u := ⟨(g + sh), some ⟨wo.heap.size + 1, 0, none⟩, l, l, chs, wt⟩) (by omega) (by rw [hus]; exact ht) ⟨by simp [h0], rfl, rfl, rfl⟩ HN.out o
                rwa [hus] at this
              clear HX HN
              go_wp2_with fail
              refine (newContent_any _ _ _ _ _ _).mono ?_
              rintro e w' ⟨rfl, rfl⟩
              go_wp2
              go_roundw
              case rel => exact ⟨j + 1, by omega, by go_num, _, by simp [hus], HST.out _⟩
              case measure => simp [intOf]; omega
    · obtain rfl : j = n := by omega
      go_wp2
      go_ret
      exact ⟨rfl, us, hus, HO.out⟩
end Go.Proofs.Qxb6600550a.Rad
