import Derived.Test.Qxb6600550aA1
namespace Go.Proofs.Qxb6600550a.Rad
open Go.RowKit

theorem Tab.congr {w : World} {s : Nat} {T T' : Nat → Nat → Nat} (h : Tab w s T) (e : ∀ b d, b < 8 → d < 256 → T b d = T' b d) : Tab w s T' := by
  obtain ⟨C, h1, h2, h3⟩ := h
  exact ⟨C, h1, h2, fun b d hb hd => by rw [← e b d hb hd]; exact h3 b d hb hd⟩

/-- Of the blocks that were there when w0 was, those of K are as they were; the streams too. -/
structure Kept (K : Nat → Prop) (w0 w : World) : Prop where
  os : w.os = w0.os
  tape : w.tape = w0.tape
  output : w.output = w0.output
  size : w0.heap.size ≤ w.heap.size
  block : ∀ k, k < w0.heap.size → K k → w.heap[k]? = w0.heap[k]?
/-- Block g may be written. -/
def Mod (K : Nat → Prop) (w0 : World) (g : Nat) : Prop := g < w0.heap.size → ¬ K g
theorem Kept.alloc {K : Nat → Prop} {w0 w : World} (h : Kept K w0 w) (o : Obj) : Kept K w0 (w.alloc o) :=
  ⟨h.os, h.tape, h.output, by have := h.size; simp; omega, fun k hk hK => (Below.heap_alloc w o k (Nat.lt_of_lt_of_le hk h.size)).trans (h.block k hk hK)⟩
theorem Kept.setCell {K : Nat → Prop} {w0 w : World} (h : Kept K w0 w) {a : Addr} (ha : Mod K w0 a.block) (v : Value) : Kept K w0 (w.setCell a v) :=
  ⟨h.os, h.tape, h.output, by have := h.size; simp [World.setCell]; omega, fun k hk hK => (heap_setCell_other _ _ _ _ (fun e => ha (by rw [← e]; exact hk) (by rw [← e]; exact hK))).trans (h.block k hk hK)⟩
theorem Kept.put {K : Nat → Prop} {w0 w : World} (h : Kept K w0 w) {g : Nat} (hg : Mod K w0 g) (j : Nat) (c : Cd) : Kept K w0 (Rad.put w g j c) :=
  (((h.setCell hg _).setCell hg _).setCell hg _).setCell hg _

/-- What the sort keeps true of memory: the two rooms, the table, all else as it was. -/
structure St (B : Nat → Prop) (w0 w : World) (gA gB s n : Nat) (xs bs : List Cd) (T : Nat → Nat → Nat) : Prop where
  a : Buf w gA n xs
  b : Buf w gB n bs
  t : Tab w s T
  bel : Kept B w0 w
  hA : Mod B w0 gA
  hB : Mod B w0 gB
  hS : Mod B w0 s
  ne : gA ≠ gB

theorem St.alloc {B : Nat → Prop} {w0 w : World} {gA gB s n : Nat} {xs bs : List Cd} {T : Nat → Nat → Nat} (h : St B w0 w gA gB s n xs bs T) (o : Obj) : St B w0 (w.alloc o) gA gB s n xs bs T :=
  ⟨h.a.of_heap (Below.heap_alloc _ _ _ h.a.lt), h.b.of_heap (Below.heap_alloc _ _ _ h.b.lt), h.t.of_heap (Below.heap_alloc _ _ _ h.t.lt), h.bel.alloc o, h.hA, h.hB, h.hS, h.ne⟩
theorem St.drewN {B : Nat → Prop} {w0 w : World} {gA gB s n : Nat} {xs bs : List Cd} {T : Nat → Nat → Nat} (h : St B w0 w gA gB s n xs bs T) (k : Nat) : St B w0 (w.drewN k) gA gB s n xs bs T :=
  ⟨h.a, h.b, h.t, ⟨h.bel.os, h.bel.tape, h.bel.output, h.bel.size, h.bel.block⟩, h.hA, h.hB, h.hS, h.ne⟩
theorem St.drew {B : Nat → Prop} {w0 w : World} {gA gB s n : Nat} {xs bs : List Cd} {T : Nat → Nat → Nat} (h : St B w0 w gA gB s n xs bs T) : St B w0 w.drew gA gB s n xs bs T := h.drewN 1
theorem St.set {B : Nat → Prop} {w0 w : World} {gA gB s n : Nat} {xs bs : List Cd} {T : Nat → Nat → Nat} (h : St B w0 w gA gB s n xs bs T) {b d v : Nat} (hd : d < 256) :
    St B w0 (w.setCell ⟨s, b * 256 + d, none⟩ (.int .i64 (v : Nat))) gA gB s n xs bs (upd T b d v) :=
  ⟨h.a.of_heap (heap_setCell_other _ _ _ _ (h.a.ne_tab h.t)), h.b.of_heap (heap_setCell_other _ _ _ _ (h.b.ne_tab h.t)), h.t.store hd, h.bel.setCell h.hS _, h.hA, h.hB, h.hS, h.ne⟩
theorem St.congr {B : Nat → Prop} {w0 w : World} {gA gB s n : Nat} {xs bs : List Cd} {T T' : Nat → Nat → Nat} (h : St B w0 w gA gB s n xs bs T) (e : ∀ b d, b < 8 → d < 256 → T b d = T' b d) : St B w0 w gA gB s n xs bs T' :=
  ⟨h.a, h.b, h.t.congr e, h.bel, h.hA, h.hB, h.hS, h.ne⟩
theorem St.put {B : Nat → Prop} {w0 w : World} {gA gB s n : Nat} {xs bs : List Cd} {T : Nat → Nat → Nat} (h : St B w0 w gA gB s n xs bs T) {j : Nat} (hj : j < n) (c : Cd) :
    St B w0 (Rad.put w gB j c) gA gB s n xs (bs.set j c) T :=
  ⟨h.a.of_heap (put_heap _ _ _ _ _ h.ne), h.b.put hj c, h.t.of_heap (put_heap _ _ _ _ _ (h.b.ne_tab h.t).symm), h.bel.put h.hB j c, h.hA, h.hB, h.hS, h.ne⟩
theorem St.swap {B : Nat → Prop} {w0 w : World} {gA gB s n : Nat} {xs bs : List Cd} {T : Nat → Nat → Nat} (h : St B w0 w gA gB s n xs bs T) : St B w0 w gB gA s n bs xs T :=
  ⟨h.b, h.a, h.t, h.bel, h.hB, h.hA, h.hS, h.ne.symm⟩

/-- The counts behind k candidates and j bytes of the next. -/
def cntT (xs : List Cd) (k j : Nat) : Nat → Nat → Nat := fun b d => if b < j then (F b (xs.take (k + 1)) d).length else (F b (xs.take k) d).length

theorem cntT_le (xs : List Cd) (k j b d : Nat) : cntT xs k j b d ≤ xs.length := by
  have h1 : ∀ m, (F b (xs.take m) d).length ≤ xs.length := fun m => Nat.le_trans (List.length_filter_le _ _) (by simp; omega)
  unfold cntT; split <;> exact h1 _

theorem cntT_step (xs : List Cd) (k j : Nat) (c : Cd) (hc : xs[k]? = some c) (b d : Nat) : upd (cntT xs k j) j (dg j c) (cntT xs k j j (dg j c) + 1) b d = cntT xs k (j + 1) b d := by
  have hk : k < xs.length := (List.getElem?_eq_some_iff.1 hc).1
  have hck : xs[k] = c := by rw [List.getElem?_eq_getElem hk] at hc; exact Option.some.inj hc
  have hF := F_take_succ b xs k d hk
  rw [hck] at hF
  unfold upd
  by_cases he : b = j ∧ d = dg j c
  · obtain ⟨rfl, rfl⟩ := he
    rw [if_pos ⟨rfl, rfl⟩]
    simp only [cntT]
    rw [if_neg (by omega), if_pos (by omega), hF, if_pos rfl]
    simp
  · rw [if_neg he]
    simp only [cntT]
    by_cases hb : b < j
    · rw [if_pos hb, if_pos (by omega)]
    · rw [if_neg hb]
      by_cases hb2 : b < j + 1
      · rw [if_pos hb2, hF]
        obtain rfl : b = j := by omega
        rw [if_neg (fun e => he ⟨rfl, e.symm⟩)]
      · rw [if_neg hb2]

theorem cntT_next (xs : List Cd) (k b d : Nat) (hb : b < 8) : cntT xs k 8 b d = cntT xs (k + 1) 0 b d := by
  simp only [cntT]; rw [if_pos hb, if_neg (by omega)]

theorem not_rank (r : Nat) (h : r < 18446744073709551616) : bits BinOp.xor IntKind.u64 (if IntKind.u64.signed = true then -1 else IntKind.u64.max) (r : Int) = ((nt r : Nat) : Int) := by
  have e : (if IntKind.u64.signed = true then (-1 : Int) else IntKind.u64.max) = 18446744073709551615 := rfl
  rw [e]
  show IntKind.u64.wrap ((BitVec.ofInt 64 18446744073709551615 ^^^ BitVec.ofInt 64 (r : Int)).toNat : Int) = _
  have h1 : BitVec.ofInt 64 18446744073709551615 = BitVec.allOnes 64 := by decide
  rw [h1, BitVec.allOnes_xor, BitVec.toNat_not, ofInt_u64 r (by omega)]
  simp [IntKind.wrap, IntKind.bits, IntKind.signed, nt]
  omega
end Go.Proofs.Qxb6600550a.Rad
