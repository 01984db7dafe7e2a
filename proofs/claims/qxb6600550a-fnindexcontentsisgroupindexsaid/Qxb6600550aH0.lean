import Derived.Test.Qxb6600550aG0
namespace Go.Proofs.Qxb6600550a.Rad
open Go.RowKit Go.Proofs.Qxb6600550a.Idx

set_option maxRecDepth 100000 in
set_option maxHeartbeats 600000 in
/-- The bound on the lengths answers something. -/
theorem zzb19_any (a : Option Addr) (n c : Nat) (sh : Int) (ts : List Ct) (w : World) (hm : n ≤ 9223372036854775807) (h : CtSl w a n ts) (hL : ∀ t ∈ ts, t.l ≤ 9223372036854775807) :
    Calls Try.prog 19 #[.slice a n c, .int .i64 sh] w fun e w' => ∃ r, e = .returned (.bool r) ∧ w' = w := by
  have HC : Hid (CtSl w a n ts) := h
  have HL : Hid (∀ t ∈ ts, t.l ≤ 9223372036854775807) := hL
  clear h hL
  by_cases hn : 1048576 < n
  · go_enter Try.func19, Try.ntmps19
    go_wp2
    go_ret
    exact ⟨_, rfl, rfl⟩
  · go_enter Try.func19, Try.ntmps19
    go_wp2
    go_loopw [5, 6] (fun s i wr => ∃ q S : Nat, q ≤ n ∧ S ≤ 1048576 ∧ s = .int .i64 S ∧ i = .int .i64 q ∧ wr = w) (fun _ i _ => n - (intOf i).toNat)
    case atStart => exact ⟨0, n, Nat.zero_le _, by omega, by simp, rfl, rfl⟩
    case round =>
      obtain ⟨q, S, hq, hS, rfl, rfl, rfl⟩ := hrel
      by_cases hlt : q < n
      · obtain ⟨G, off, rfl, hr⟩ := HC.out.2 (by omega)
        obtain ⟨t, ht⟩ : ∃ t, ts[q]? = some t := ⟨_, List.getElem?_eq_getElem (by rw [hr.len]; exact hlt)⟩
        have h1 := (hr.cell q t ht).2.1
        have h2 := HL.out t (List.mem_of_getElem? ht)
        clear hr
        by_cases hbig : 1048576 < t.l
        · go_wp2
          go_ret
          exact ⟨_, rfl, rfl⟩
        · by_cases hsum : 1048576 < S + t.l
          · go_wp2
            go_ret
            exact ⟨_, rfl, rfl⟩
          · go_wp2
            go_roundw
            case rel => exact ⟨q + 1, S + t.l, by omega, by omega, by go_num, by go_num, by trivial⟩
            case measure => simp [intOf]; omega
      · go_wp2
        go_ret
        exact ⟨_, rfl, rfl⟩

/-- Two indexes, of the contents and of the contents renamed. -/
structure Both (w9 : World) (b1 b2 : Nat) (sh : Int) (us1 us2 : List Ct) : Prop where
  i1 : ∃ wa, IndexAt wa w9 b1 us1
  i2 : ∃ wb, IndexAt wb w9 b2 us2
  sim : Sim sh (ixOf us1) (ixOf us2)
  mem : memAt (ixOf us2).kindOf (ixOf us2).count us2 us2.length = memAt (ixOf us1).kindOf (ixOf us1).count us1 us1.length
  c1 : ∀ t ∈ us1, ChRow w9 t.a t.l t.chs
  c2 : ∀ t ∈ us2, ChRow w9 t.a t.l t.chs
  g1 : ∀ t ∈ us1, 0 ≤ t.g ∧ t.g ≤ 32768
  l1 : ∀ t ∈ us1, t.l ≤ 65536
  n1 : us1.length ≤ 32768
theorem Both.below {w9 w' : World} {b1 b2 : Nat} {sh : Int} {us1 us2 : List Ct} (h : Both w9 b1 b2 sh us1 us2) (hb : Below w9.heap.size w9 w') : Both w' b1 b2 sh us1 us2 := by
  obtain ⟨wa, h1⟩ := h.i1
  obtain ⟨wb, h2⟩ := h.i2
  exact ⟨⟨wa, h1.below hb⟩, ⟨wb, h2.below hb⟩, h.sim, h.mem, fun t ht => (h.c1 t ht).kept hb, fun t ht => (h.c2 t ht).kept hb, h.g1, h.l1, h.n1⟩

theorem both_plain (sh : Int) (hs : 1 ≤ sh) (ts us1 us2 : List Ct) (l1 : us1.length = ts.length) (l2 : us2.length = ts.length) (hg : ∀ t ∈ ts, 0 ≤ t.g ∧ t.g ≤ 32768) (m1 : ∀ (j : Nat) t u, ts[j]? = some t → us1[j]? = some u → Made 0 t u) (m2 : ∀ (j : Nat) t u, ts[j]? = some t → us2[j]? = some u → Made sh t u) :
    Sim sh (ixOf us1) (ixOf us2) ∧ memAt (ixOf us2).kindOf (ixOf us2).count us2 us2.length = memAt (ixOf us1).kindOf (ixOf us1).count us1 us1.length ∧ (∀ t ∈ us1, 0 ≤ t.g ∧ t.g ≤ 32768) := by
  have at1 : ∀ (j : Nat) u, us1[j]? = some u → ∃ t, ts[j]? = some t ∧ Made 0 t u := fun j u hu => by
    have hj := (List.getElem?_eq_some_iff.1 hu).1
    exact ⟨_, List.getElem?_eq_getElem (by omega), m1 j _ u (List.getElem?_eq_getElem (by omega)) hu⟩
  have hg1 : ∀ t ∈ us1, 0 ≤ t.g ∧ t.g ≤ 32768 := fun u hu => by
    obtain ⟨j, hj⟩ := List.mem_iff_getElem?.1 hu
    obtain ⟨t, ht, hm⟩ := at1 j u hj
    have := hg t (List.mem_of_getElem? ht)
    rw [hm.g]
    by_cases h0 : t.g = 0
    · rw [if_pos h0]; omega
    · rw [if_neg h0]; omega
  have ren : ∀ (j : Nat) t t', us1[j]? = some t → us2[j]? = some t' → Ren sh t t' := fun j u u' hu hu' => by
    obtain ⟨t, ht, hm⟩ := at1 j u hu
    have hm' := m2 j t u' ht hu'
    have hgt := hg t (List.mem_of_getElem? ht)
    have e : u.g = t.g := by
      rw [hm.g]
      by_cases h0 : t.g = 0
      · rw [if_pos h0, h0]
      · rw [if_neg h0]; omega
    exact ⟨by rw [hm'.g, e], by rw [hm'.chs, hm.chs], by rw [hm'.wt, hm.wt], by rw [e]; exact hgt.1⟩
  have hsim := sim_ixOf sh (by omega) us1 us2 (by omega) ren
  refine ⟨hsim, ?_, hg1⟩
  rw [hsim.count, l2, ← l1]
  refine memAt_sim _ _ _ us1 us2 (by omega) (fun j t t' h1 h2 => ?_) us1.length
  have r := ren j t t' h1 h2
  have hp := r.pos
  refine ⟨?_, fun h0 => ?_⟩
  · rw [r.g]
    by_cases h0 : t.g = 0
    · rw [if_pos h0]; simp [h0]
    · rw [if_neg h0]; omega
  · rw [r.g, if_neg h0]
    exact hsim.kof t.g (by omega)

/-- The world while the runes compared are noted down in a map. -/
structure Cmp (w9 wr : World) (cm : Nat) : Prop where
  bel : Below w9.heap.size w9 wr
  lo : w9.heap.size ≤ cm
  map : ∃ f n, IMap wr cm .i32 f n ∧ ∀ a v, f a = some v → v = .bool true
theorem Cmp.alloc {w9 wr : World} {cm : Nat} (h : Cmp w9 wr cm) (o : Obj) (j : Nat) : Cmp w9 ((wr.alloc o).drewN j) cm := by
  obtain ⟨f, n, h1, h2⟩ := h.map
  have hb := h.bel.alloc h.bel.size o
  exact ⟨⟨hb.os, hb.tape, hb.output, hb.size, hb.block⟩, h.lo, f, n, h1.of_heap (Below.heap_alloc _ _ _ h1.lt), h2⟩
theorem zero4 (w : World) : (zeroValue 4).run Try.prog w = .ok (.bool false) w := by kernel_rfl
theorem Cmp.look {w9 wr : World} {cm : Nat} (h : Cmp w9 wr cm) (r : Int) : ∃ b, (Instr.lookup 51 (.map (some cm)) (.int .i32 r) false).run Try.prog wr = .ok (.bool b) wr := by
  obtain ⟨f, n, h1, h2⟩ := h.map
  have := h1.look (P := Try.prog) Try.underlying51 Try.underlying21 (zero4 wr) r
  cases hf : f r with
  | none => exact ⟨false, by rw [this, hf]; rfl⟩
  | some v => exact ⟨true, by rw [this, hf, h2 r v hf]; rfl⟩
theorem Cmp.store {w9 wr : World} {cm : Nat} (h : Cmp w9 wr cm) (r : Int) : ∃ w', (Instr.mapUpdate 51 (.map (some cm)) (.int .i32 r) (.bool true)).run Try.prog wr = .ok () w' ∧ Cmp w9 w' cm := by
  obtain ⟨f, n, h1, h2⟩ := h.map
  obtain ⟨w', a, b, c⟩ := h1.store (P := Try.prog) Try.underlying51 Try.underlying21 r (.bool true)
  refine ⟨w', a, ⟨c.os.trans h.bel.os, c.tape.trans h.bel.tape, c.output.trans h.bel.output, by rw [c.size]; exact h.bel.size, fun k hk => (c.block k (by have := h.lo; omega)).trans (h.bel.block k hk)⟩, h.lo, _, _, b, fun x v hv => ?_⟩
  by_cases hx : x = r
  · rw [if_pos hx] at hv; exact (Option.some.inj hv).symm
  · rw [if_neg hx] at hv; exact h2 x v hv
end Go.Proofs.Qxb6600550a.Rad
