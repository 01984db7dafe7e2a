import Derived.Test.Qxb6600550aA2
import Derived.Deep.MidRow
namespace Go.Proofs.Qxb6600550a.Rad
open Go.RowKit

theorem dg_toNat (b : Nat) (c : Cd) : (((nt c.1 : Nat) : Int) / 2 ^ (8 * b) % 256).toNat = dg b c := by
  have e : (((nt c.1 : Nat) : Int) / 2 ^ (8 * b) % 256) = ((dg b c : Nat) : Int) := by
    unfold dg
    rw [Int.natCast_emod, Int.natCast_ediv, Int.natCast_pow]
    rfl
  rw [e, Int.toNat_natCast]

theorem index88 (cs : Array Value) (d : Nat) (v : Int) (hd : d < 256) (hv : cs[d]? = some (.int .i64 v)) (w : World) : (Instr.index 88 (.agg cs) (.int .i64 (d : Nat))).run Try.prog w = .ok (.int .i64 v) w := by
  have h3 : (Try.prog.info? 3).map (fun i => (i.zero, i.size, i.bytes)) = some (some (.int .i64 0), 1, 8) := by kernel_rfl
  obtain ⟨i0, hi0, hz0, hz1, hz2⟩ := info_parts h3
  simp [Instr.index, run_underlying Try.underlying88, asIntOf, sizeOf, typeInfo, hi0, hz1, part, isAgg, run_underlying Try.underlying3, hv]
  omega

/-- Row b of the table, as cells. -/
theorem Tab.row {w : World} {s : Nat} {T : Nat → Nat → Nat} (h : Tab w s T) {b : Nat} (hb : b < 8) : ∃ cs : List Value, cs.length = 256 ∧ w.rangeAt s (b * 256) cs ∧ ∀ d, d < 256 → cs.toArray[d]? = some (.int .i64 (T b d : Nat)) := by
  obtain ⟨C, h1, h2, h3⟩ := h
  refine ⟨(C.extract (b * 256) (b * 256 + 256)).toList, by simp; omega, World.rangeAt_of_block h1 _ _, fun d hd => ?_⟩
  rw [← h3 b d hb hd, List.getElem?_toArray, Array.getElem?_toList, Array.getElem?_extract, if_pos (by omega)]

/-- The byte b of the inverted rank, step by step, each number behind a letter: so the walk carries no power and no great numeral. -/
theorem digit_steps (b : Nat) (c : Cd) (hr : c.1 < 18446744073709551616) : ∃ N S : Int, bits BinOp.xor IntKind.u64 (if IntKind.u64.signed = true then -1 else IntKind.u64.max) (c.1 : Int) = N ∧ N / 2 ^ (8 * b) = S ∧ (S % 256).toNat = dg b c ∧ 0 ≤ S :=
  ⟨_, _, not_rank c.1 hr, rfl, dg_toNat b c, Int.ediv_nonneg (by omega) (Int.pow_nonneg (by omega))⟩

def Rk (xs : List Cd) : Prop := ∀ c ∈ xs, c.1 < 18446744073709551616
/-- A row of 256 numbers loaded out of the middle of the table. -/
theorem wpList_load88 {w : World} {ops : Array Oper} {rest : List Oper} {a : Act} {Q : Exit → Act → World → Prop} {d : Option Tmp} {ty : TypeId} {pos : String} {after : Array Edge} {x : Operand} (b o : Nat) (cs : List Value)
    (hc : w.rangeAt b o cs) (hl : cs.length = 256) (hx : a.eval x = .pointer (some ⟨b, o, none⟩))
    (h : wpList Try.prog ops Q rest (a.put d (.agg cs.toArray)) w) : wpList Try.prog ops Q (⟨d, .load 88 x, ty, pos, after, none⟩ :: rest) a w := by
  have h88 : (Try.prog.info? 88).map (·.size) = some 256 := by kernel_rfl
  exact wpList_load_mid rfl 88 x rfl b o hx cs _ hc Try.underlying88 rfl (by rw [hl]; exact h88) h

theorem F_perm {b : Nat} {xs ys : List Cd} (h : ys.Perm xs) (d : Nat) : (F b ys d).length = (F b xs d).length := (h.filter _).length_eq

/-- Ahead of pass b. -/
def P3 (B : Nat → Prop) (w0 wr : World) (gX gY s n : Nat) (xs : List Cd) (b : Nat) (ys : List Cd) (T : Nat → Nat → Nat) : Prop :=
  St B w0 wr gX gY s n (rad xs b) ys T ∧ ∀ b' d, b ≤ b' → b' < 8 → d < 256 → T b' d = (F b' xs d).length

theorem P3.skip {B : Nat → Prop} {w0 wr : World} {gX gY s n : Nat} {xs : List Cd} {b : Nat} {ys : List Cd} {T : Nat → Nat → Nat} (h : P3 B w0 wr gX gY s n xs b ys T) (hs : pass b (rad xs b) = rad xs b) : P3 B w0 wr gX gY s n xs (b + 1) ys T := by
  refine ⟨?_, fun b' d h1 h2 h3 => h.2 b' d (by omega) h2 h3⟩
  rw [rad, hs]
  exact h.1
theorem P3.drewN {B : Nat → Prop} {w0 wr : World} {gX gY s n : Nat} {xs : List Cd} {b : Nat} {ys : List Cd} {T : Nat → Nat → Nat} (h : P3 B w0 wr gX gY s n xs b ys T) (k : Nat) : P3 B w0 (wr.drewN k) gX gY s n xs b ys T := ⟨h.1.drewN k, h.2⟩
theorem P3.count {B : Nat → Prop} {w0 wr : World} {gX gY s n : Nat} {xs : List Cd} {b : Nat} {ys : List Cd} {T : Nat → Nat → Nat} (h : P3 B w0 wr gX gY s n xs b ys T) (hb : b < 8) {d : Nat} (hd : d < 256) : T b d = (F b (rad xs b) d).length := by
  rw [h.2 b d (Nat.le_refl _) hb hd, F_perm (rad_perm xs b)]

/-- The table while the counts of byte b are made places. -/
def pfx (T : Nat → Nat → Nat) (cs : List Cd) (b d : Nat) : Nat → Nat → Nat := fun b' d' => if b' = b ∧ d' < d then base b cs d' else T b' d'
theorem pfx_step (T : Nat → Nat → Nat) (cs : List Cd) (b d b' d' : Nat) : upd (pfx T cs b d) b d (base b cs d) b' d' = pfx T cs b (d + 1) b' d' := by
  unfold upd pfx
  by_cases h : b' = b ∧ d' = d
  · obtain ⟨rfl, rfl⟩ := h
    rw [if_pos ⟨rfl, rfl⟩, if_pos ⟨rfl, by omega⟩]
  · rw [if_neg h]
    by_cases h2 : b' = b ∧ d' < d
    · rw [if_pos h2, if_pos ⟨h2.1, by omega⟩]
    · rw [if_neg h2, if_neg (by omega)]
/-- The table while the candidates are scattered. -/
def sct (T : Nat → Nat → Nat) (cs : List Cd) (b j : Nat) : Nat → Nat → Nat := fun b' d' => if b' = b then base b cs d' + (F b (cs.take j) d').length else T b' d'
theorem sct_start (T : Nat → Nat → Nat) (cs : List Cd) (b b' d' : Nat) (h : d' < 256) : pfx T cs b 256 b' d' = sct T cs b 0 b' d' := by
  unfold pfx sct
  by_cases hb : b' = b
  · rw [if_pos ⟨hb, h⟩, if_pos hb]; simp [F]
  · rw [if_neg (by omega), if_neg hb]
theorem sct_step (T : Nat → Nat → Nat) (cs : List Cd) (b j : Nat) (c : Cd) (hc : cs[j]? = some c) (b' d' : Nat) : upd (sct T cs b j) b (dg b c) (sct T cs b j b (dg b c) + 1) b' d' = sct T cs b (j + 1) b' d' := by
  have hk : j < cs.length := (List.getElem?_eq_some_iff.1 hc).1
  have hck : cs[j] = c := by rw [List.getElem?_eq_getElem hk] at hc; exact Option.some.inj hc
  have hF := F_take_succ b cs j d' hk
  rw [hck] at hF
  unfold upd sct
  by_cases h : b' = b ∧ d' = dg b c
  · obtain ⟨rfl, rfl⟩ := h
    rw [if_pos ⟨rfl, rfl⟩, if_pos rfl, if_pos rfl, hF, if_pos rfl]
    simp; omega
  · rw [if_neg h]
    by_cases hb : b' = b
    · rw [if_pos hb, if_pos hb, hF, if_neg (by omega)]
    · rw [if_neg hb, if_neg hb]

theorem base_le (b : Nat) (cs : List Cd) (d : Nat) (h : d ≤ 256) : base b cs d ≤ cs.length := by
  have := base_mono b cs h
  rw [base_full] at this
  exact this

/-- Loop 5's state. -/
def P5 (B : Nat → Prop) (w0 wx : World) (gX gY s n : Nat) (cs : List Cd) (T : Nat → Nat → Nat) (b j : Nat) : Prop :=
  ∃ zs, St B w0 wx gX gY s n cs zs (sct T cs b j) ∧ Scat b cs j zs

theorem P5.step {B : Nat → Prop} {w0 wx : World} {gX gY s n : Nat} {cs : List Cd} {T : Nat → Nat → Nat} {b j : Nat} {c : Cd} (h : P5 B w0 wx gX gY s n cs T b j) (hc : cs[j]? = some c) (o : Obj) (q : Nat) (hn : cs.length = n) {t : Nat} (ht : t = sct T cs b j b (dg b c)) :
    P5 B w0 (((Rad.put (wx.alloc o) gY t c).setCell ⟨s, b * 256 + dg b c, none⟩ (.int .i64 ((t : Int) + 1))).drewN q) gX gY s n cs T b (j + 1) := by
  obtain ⟨zs, h1, h2⟩ := h
  have hk : j < cs.length := (List.getElem?_eq_some_iff.1 hc).1
  have hck : cs[j] = c := by rw [List.getElem?_eq_getElem hk] at hc; exact Option.some.inj hc
  have hp := pos_lt b cs j hk
  have hsc := scat_step b cs zs j hk h2
  rw [hck] at hp hsc
  have hte : t = base b cs (dg b c) + (F b (cs.take j) (dg b c)).length := by rw [ht]; simp [sct]
  rw [← hte] at hp hsc
  have h3 := ((h1.alloc o).put (j := t) (by omega) c).set (b := b) (d := dg b c) (v := t + 1) (dg_lt b c)
  refine ⟨zs.set t c, ?_, hsc⟩
  refine (h3.drewN q).congr (fun b' d' _ _ => ?_)
  rw [ht]
  exact sct_step T cs b j c hc b' d'

/-- All that the round of loop 5 asks. -/
theorem P5.facts {B : Nat → Prop} {w0 wx : World} {gX gY s n : Nat} {cs : List Cd} {T : Nat → Nat → Nat} {b j : Nat} (h : P5 B w0 wx gX gY s n cs T b j) (hb : b < 8) (hj : j < n) (hn : cs.length = n) (hr : ∀ c ∈ cs, c.1 < 18446744073709551616) :
    ∃ (rk : Nat) (ti ki N S : Int) (D t : Nat) (u0 u1 u2 u3 : Value),
      (wx.cell? ⟨gX, j * 4, none⟩ = some (.int .u64 (rk : Nat)) ∧ wx.cell? ⟨gX, j * 4 + 1, none⟩ = some (.pointer none) ∧ wx.cell? ⟨gX, j * 4 + 2, none⟩ = some (.int .i32 ti) ∧ wx.cell? ⟨gX, j * 4 + 3, none⟩ = some (.int .i32 ki)) ∧
      (bits BinOp.xor IntKind.u64 (if IntKind.u64.signed = true then -1 else IntKind.u64.max) (rk : Int) = N ∧ N / 2 ^ (8 * b) = S ∧ (S % 256).toNat = D ∧ 0 ≤ S) ∧
      (t < n ∧ wx.cell? ⟨s, b * 256 + D, none⟩ = some (.int .i64 (t : Nat)) ∧ wx.frozen? ⟨s, b * 256 + D, none⟩ = false) ∧
      (wx.cell? ⟨gY, t * 4, none⟩ = some u0 ∧ wx.cell? ⟨gY, t * 4 + 1, none⟩ = some u1 ∧ wx.cell? ⟨gY, t * 4 + 2, none⟩ = some u2 ∧ wx.cell? ⟨gY, t * 4 + 3, none⟩ = some u3) ∧
      (∀ o, wx.frozen? ⟨gY, o, none⟩ = false) ∧ (gY ≠ s ∧ gX ≠ s ∧ gX ≠ gY ∧ gX < wx.heap.size ∧ gY < wx.heap.size ∧ s < wx.heap.size) ∧
      ∀ o q, P5 B w0 (((Rad.put (wx.alloc o) gY t (rk, ti, ki)).setCell ⟨s, b * 256 + D, none⟩ (.int .i64 ((t : Int) + 1))).drewN q) gX gY s n cs T b (j + 1) := by
  have h' := h
  obtain ⟨zs, h1, h2⟩ := h
  have hjl : j < cs.length := by omega
  have hc : cs[j]? = some cs[j] := List.getElem?_eq_getElem hjl
  obtain ⟨N, S, hx, hsh, hdn, hS0⟩ := digit_steps b cs[j] (hr _ (List.getElem_mem hjl))
  have hp := pos_lt b cs j hjl
  have htz : base b cs (dg b cs[j]) + (F b (cs.take j) (dg b cs[j])).length < zs.length := by rw [h1.b.len]; omega
  obtain ⟨p0, p1, p2, p3⟩ := h1.b.cells (List.getElem?_eq_getElem htz)
  have hts : sct T cs b j b (dg b cs[j]) = base b cs (dg b cs[j]) + (F b (cs.take j) (dg b cs[j])).length := by simp [sct]
  have htc := h1.t.cell hb (dg_lt b cs[j])
  rw [hts] at htc
  exact ⟨cs[j].1, cs[j].2.1, cs[j].2.2, N, S, dg b cs[j], base b cs (dg b cs[j]) + (F b (cs.take j) (dg b cs[j])).length, _, _, _, _, h1.a.cells hc, ⟨hx, hsh, hdn, hS0⟩, ⟨by omega, htc, h1.t.frozen _⟩, ⟨p0, p1, p2, p3⟩, fun o => h1.b.frozen o,
    ⟨h1.b.ne_tab h1.t, h1.a.ne_tab h1.t, h1.ne, h1.a.lt, h1.b.lt, h1.t.lt⟩, fun o q => h'.step hc o q hn hts.symm⟩

/-- A candidate in a box of its own: the world and the box behind letters. -/
theorem box_facts (w : World) (s gY rk : Nat) (ti ki : Int) (l2 : gY < w.heap.size) (l3 : s < w.heap.size) :
    ∃ (w5 : World) (bx : Nat), w5 = w.alloc (.cells #[.int .u64 (rk : Nat), .pointer none, .int .i32 ti, .int .i32 ki] 35) ∧ bx = w.heap.size ∧
      w5.cell? ⟨bx, 0, none⟩ = some (.int .u64 (rk : Nat)) ∧ w5.cell? ⟨bx, 1, none⟩ = some (.pointer none) ∧ w5.cell? ⟨bx, 2, none⟩ = some (.int .i32 ti) ∧ w5.cell? ⟨bx, 3, none⟩ = some (.int .i32 ki) ∧
      bx ≠ s ∧ bx ≠ gY ∧ ∀ g o, g < w.heap.size → w5.cell? ⟨g, o, none⟩ = w.cell? ⟨g, o, none⟩ ∧ w5.frozen? ⟨g, o, none⟩ = w.frozen? ⟨g, o, none⟩ :=
  ⟨_, _, rfl, rfl, by simp, by simp, by simp, by simp, by omega, by omega, fun g o hg => ⟨World.cell?_of_block (Below.heap_alloc _ _ _ hg), World.frozen?_of_block (Below.heap_alloc _ _ _ hg)⟩⟩

theorem P5.done {B : Nat → Prop} {w0 wx : World} {gX gY s n : Nat} {xs cs : List Cd} {T : Nat → Nat → Nat} {b : Nat} (h : P5 B w0 wx gX gY s n cs T b n) (hn : cs.length = n) (hcs : cs = rad xs b)
    (hT : ∀ b' d, b + 1 ≤ b' → b' < 8 → d < 256 → T b' d = (F b' xs d).length) : P3 B w0 wx gY gX s n xs (b + 1) cs (sct T cs b n) := by
  obtain ⟨zs, h1, h2⟩ := h
  subst hn
  have e := scat_end b cs zs h2
  refine ⟨?_, fun b' d h3 h4 h5 => ?_⟩
  · rw [rad, ← hcs, ← e]
    exact h1.swap
  · rw [← hT b' d h3 h4 h5]
    simp only [sct]
    rw [if_neg (by omega)]
end Go.Proofs.Qxb6600550a.Rad
