import Derived.Test.Qxb6600550aJ1
namespace Go.Proofs.Qxb6600550a.Rad
open Go.RowKit Go.Proofs.Qxb6600550a.Idx

/-- The contents as they were handed in, against those that were indexed. -/
structure Raw (w : World) (a : Option Addr) (n : Nat) (us : List Ct) : Prop where
  len : us.length = n
  row : ∀ (j : Nat) (u : Ct), us[j]? = some u → ∃ G off ta tc, a = some ⟨G, off, none⟩ ∧ G < w.heap.size ∧ w.cell? ⟨G, off + j * 3, none⟩ = some (.int .i64 u.g) ∧ w.cell? ⟨G, off + j * 3 + 1, none⟩ = some (.slice ta u.l tc) ∧ w.cell? ⟨G, off + j * 3 + 2, none⟩ = some (.float .f64 u.wt) ∧ ChRow w ta u.l u.chs
theorem Raw.below {w w' : World} {a : Option Addr} {n : Nat} {us : List Ct} (h : Raw w a n us) (hb : Below w.heap.size w w') : Raw w' a n us := by
  refine ⟨h.len, fun j u hu => ?_⟩
  obtain ⟨G, off, ta, tc, e, hl, c0, c1, c2, hc⟩ := h.row j u hu
  exact ⟨G, off, ta, tc, e, Nat.lt_of_lt_of_le hl hb.size, (hb.cell (p := ⟨G, _, none⟩) hl).trans c0, (hb.cell (p := ⟨G, _, none⟩) hl).trans c1, (hb.cell (p := ⟨G, _, none⟩) hl).trans c2, hc.kept hb⟩
theorem raw_of {w w' : World} {a : Option Addr} {n : Nat} {ts us : List Ct} (h : CtSl w a n ts) (hb : Below w.heap.size w w') (hl : us.length = n) (hm : ∀ (j : Nat) t u, ts[j]? = some t → us[j]? = some u → Made 0 t u) : Raw w' a n us := by
  refine ⟨hl, fun j u hu => ?_⟩
  have hj := (List.getElem?_eq_some_iff.1 hu).1
  obtain ⟨G, off, rfl, hr⟩ := h.2 (by omega)
  have ht : ts[j]? = some (ts[j]'(by rw [h.1]; omega)) := List.getElem?_eq_getElem _
  have m := hm j _ u ht hu
  generalize ts[j]'(by rw [h.1]; omega) = t at ht m
  have eg : u.g = t.g := by
    rw [m.g]
    by_cases h0 : t.g = 0
    · rw [if_pos h0, h0]
    · rw [if_neg h0]; omega
  have hr' := hr.kept hb
  obtain ⟨c0, c1, c2⟩ := hr'.cell j t ht
  refine ⟨G, off, t.a, t.c, rfl, hr'.lt, by rw [eg]; exact c0, by rw [m.l]; exact c1, by rw [m.wt]; exact c2, ?_⟩
  have := hr'.chs j t ht
  rw [m.l, m.chs]; exact this

/-- What every part of the check may read. -/
structure Bs (w wr : World) (a : Option Addr) (b n : Nat) (us : List Ct) : Prop where
  raw : Raw wr a n us
  ix : ∃ wa, IndexAt wa wr b us
  ch : ∀ u ∈ us, ChRow wr u.a u.l u.chs
  bel : Below w.heap.size w wr
theorem Bs.below {w wr w' : World} {a : Option Addr} {b n : Nat} {us : List Ct} (h : Bs w wr a b n us) (hb : Below wr.heap.size wr w') : Bs w w' a b n us := by
  obtain ⟨wa, h1⟩ := h.ix
  exact ⟨h.raw.below hb, ⟨wa, h1.below hb⟩, fun u hu => (h.ch u hu).kept hb, h.bel.trans (hb.mono h.bel.size)⟩

theorem info3 : (Try.prog.info? 3).map (fun i => (i.zero, i.size, i.bytes)) = some (some (.int .i64 0), 1, 8) := by kernel_rfl
theorem make3 (n : Nat) (hn : n ≤ 1048576) : ∃ M : Array Value, (∀ w : World, (Instr.makeSlice 75 (.int .i64 (n : Int)) (.int .i64 (n : Int))).run Try.prog w = .ok (.slice (some ⟨w.heap.size, 0, none⟩) n n) (w.alloc (.cells M 3))) ∧
    ∀ w : World, VRow (w.alloc (.cells M 3)) w.heap.size n 3 (fun _ => .int .i64 0) := by
  obtain ⟨i0, hi, hz0, hz1, hz2⟩ := info_parts info3
  refine ⟨madeCells (Value.int .i64 0).cells (n * 1), fun w => ?_, fun w => ⟨_, heap_alloc_new w _, fun i hi => ?_⟩⟩
  · have h := run_make (P := Try.prog) w 75 3 i0 (.int .i64 0) Try.underlying75 hi hz0 .i64 .i64 n n (by omega) (by omega) (by rw [hz2]; omega) (by omega)
    simpa [hz1] using h
  · have e : (madeCells (Value.int .i64 0).cells (n * 1)).toList = List.replicate n (.int .i64 0) := by rw [Nat.mul_one]; exact toList_madeCells_one _ _
    rw [← Array.getElem?_toList, e, List.getElem?_replicate, if_pos hi]
/-- Where the kinds that first appear before j stand. -/
def PosOk (us : List Ct) (n j : Nat) (P : Nat → Int) : Prop := ∀ (p : Nat) (u : Ct), p < j → us[p]? = some u → u.g ≠ 0 → fp us n u.g = (p : Int) → P (kb us p) = p
theorem Below.put1 {wi wr : World} (h : Below wi.heap.size wi wr) (i : Nat) (v : Value) : Below wi.heap.size wi (wr.setCell ⟨wi.heap.size, i, none⟩ v) := h.setCell (Nat.le_refl _) v
/-- All that the check has laid down. -/
structure AllB (w wr : World) (a : Option Addr) (b n : Nat) (us : List Ct) (fB kB pB cB m K : Nat) (P : Nat → Int) : Prop where
  bs : Bs w wr a b n us
  vf : VRow wr fB (m + 1) 3 (fun i => .int .i64 (fp us n i))
  vk : VRow wr kB (n + 1) 3 (fun i => .int .i64 (kb us i))
  vp : VRow wr pB K 3 (fun k => .int .i64 (P k))
  vc : VRow wr cB K 3 (fun k => .int .i64 (cnt (ixOf us).kindOf us k))
theorem AllB.below {w wr w' : World} {a : Option Addr} {b n : Nat} {us : List Ct} {fB kB pB cB m K : Nat} {P : Nat → Int} (h : AllB w wr a b n us fB kB pB cB m K P) (hb : Below wr.heap.size wr w') : AllB w w' a b n us fB kB pB cB m K P :=
  ⟨h.bs.below hb, h.vf.below hb, h.vk.below hb, h.vp.below hb, h.vc.below hb⟩
theorem below_drewN (w : World) (q : Nat) : Below w.heap.size w (w.drewN q) := ⟨rfl, rfl, rfl, Nat.le_refl _, fun _ _ => rfl⟩
theorem below_alloc (w : World) (o : Obj) : Below w.heap.size w (w.alloc o) := (Below.refl _ _).alloc (Nat.le_refl _) o
end Go.Proofs.Qxb6600550a.Rad
