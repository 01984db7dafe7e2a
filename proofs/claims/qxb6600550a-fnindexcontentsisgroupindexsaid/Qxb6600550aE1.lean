import Derived.Test.Qxb6600550aE0
namespace Go.Proofs.Qxb6600550a.Rad
open Go.RowKit Go.Proofs.Qxb6600550a.Idx

/-- The cells of the index. -/
abbrev ixc (vk v1 v2 : Value) (hm lm : Nat) (v5 v7 : Value) : Array Value := #[vk, v1, v2, .map (some hm), .map (some lm), v5, .slice none 0 0, v7]
/-- What is kept of the index beside the rows of kinds and counts. -/
structure Core (w wr : World) (b hm lm kB N : Nat) (cs : Array Value) (s : Ix) : Prop where
  bel : Below w.heap.size w wr
  blk : wr.heap[b]? = some (.cells cs 83 (0, 0))
  kof : VRow wr kB N 21 (fun i => .int .i32 (s.kindOf i))
  less : IMap wr lm .i64 (fun g => (s.less g).map (.int .i32)) s.nless
  hold : ∃ F, HMap w.heap.size wr hm s.hd F
  hml : hm ≠ lm
  lob : w.heap.size ≤ b
  lohm : w.heap.size ≤ hm
  lolm : w.heap.size ≤ lm
  lok : w.heap.size ≤ kB
theorem VRow.ty {w : World} {h n : Nat} {e : TypeId} {f : Nat → Value} (s : VRow w h n e f) : Ty w h e := by
  obtain ⟨C, h1, _⟩ := s
  exact ⟨_, _, h1⟩
theorem Core.tyb {w wr : World} {b hm lm kB N : Nat} {cs : Array Value} {s : Ix} (h : Core w wr b hm lm kB N cs s) : Ty wr b 83 := ⟨_, _, h.blk⟩
theorem Core.mph {w wr : World} {b hm lm kB N : Nat} {cs : Array Value} {s : Ix} (h : Core w wr b hm lm kB N cs s) : Mp wr hm := by
  obtain ⟨F, hF⟩ := h.hold
  exact hF.map.mp
theorem Mp.lt {w : World} {k : Nat} (h : Mp w k) : k < w.heap.size := by
  obtain ⟨c, f, h1⟩ := h
  exact (Array.getElem?_eq_some_iff.1 h1).1
theorem Core.of {w wr wr' : World} {b hm lm kB N : Nat} {cs : Array Value} {s : Ix} (h : Core w wr b hm lm kB N cs s) (hb : Below w.heap.size w wr') (eb : wr'.heap[b]? = wr.heap[b]?) (ek : wr'.heap[kB]? = wr.heap[kB]?) (em : ∀ k, Mp wr k → wr'.heap[k]? = wr.heap[k]?)
    (er : ∀ k, Ty wr k 86 → wr'.heap[k]? = wr.heap[k]?) : Core w wr' b hm lm kB N cs s := by
  refine ⟨hb, eb.trans h.blk, h.kof.of_heap ek, h.less.of_heap (em lm h.less.mp), ?_, h.hml, h.lob, h.lohm, h.lolm, h.lok⟩
  obtain ⟨F, hF⟩ := h.hold
  exact ⟨F, hF.of (em hm hF.map.mp) er⟩
theorem Core.alloc {w wr : World} {b hm lm kB N : Nat} {cs : Array Value} {s : Ix} (h : Core w wr b hm lm kB N cs s) (o : Obj) : Core w (wr.alloc o) b hm lm kB N cs s :=
  h.of (h.bel.alloc h.bel.size o) (Below.heap_alloc _ _ _ h.tyb.lt) (Below.heap_alloc _ _ _ h.kof.lt) (fun _ hk => Below.heap_alloc _ _ _ hk.lt) (fun _ hk => Below.heap_alloc _ _ _ hk.lt)
theorem Core.drewN {w wr : World} {b hm lm kB N : Nat} {cs : Array Value} {s : Ix} (h : Core w wr b hm lm kB N cs s) (j : Nat) : Core w (wr.drewN j) b hm lm kB N cs s :=
  h.of ⟨h.bel.os, h.bel.tape, h.bel.output, h.bel.size, h.bel.block⟩ rfl rfl (fun _ _ => rfl) (fun _ _ => rfl)
theorem Core.grow {w wr w1 : World} {b hm lm kB N : Nat} {cs : Array Value} {s : Ix} (h : Core w wr b hm lm kB N cs s) {row : Option Nat} (hg : wr.grownBy w1 row) (hr : ∀ g, row = some g → w.heap.size ≤ g ∧ (Ty wr g 73 ∨ (Ty wr g 21 ∧ g ≠ kB))) : Core w w1 b hm lm kB N cs s := by
  have key : ∀ k, (Ty wr k 83 ∨ Mp wr k ∨ Ty wr k 86 ∨ k = kB) → w1.heap[k]? = wr.heap[k]? := by
    intro k hk
    have hlt : k < wr.heap.size := by
      rcases hk with h1 | h1 | h1 | rfl
      · exact h1.lt
      · exact h1.lt
      · exact h1.lt
      · exact h.kof.lt
    refine hg.block k hlt (fun e => ?_)
    obtain ⟨_, ht⟩ := hr k e.symm
    rcases ht with ht | ⟨ht, hne⟩
    · rcases hk with h1 | h1 | h1 | rfl
      · exact ht.ne h1 (by decide) rfl
      · exact ht.ne_map h1 rfl
      · exact ht.ne h1 (by decide) rfl
      · exact ht.ne h.kof.ty (by decide) rfl
    · rcases hk with h1 | h1 | h1 | h1
      · exact ht.ne h1 (by decide) rfl
      · exact ht.ne_map h1 rfl
      · exact ht.ne h1 (by decide) rfl
      · exact hne h1
  exact h.of (h.bel.grown hg h.bel.size (fun k hk => (hr k hk).1)) (key b (.inl h.tyb)) (key kB (.inr (.inr (.inr rfl)))) (fun k hk => key k (.inr (.inl hk))) (fun k hk => key k (.inr (.inr (.inl hk))))
/-- A store into another row of int32 (or of contents). -/
theorem Core.put {w wr : World} {b hm lm kB N : Nat} {cs : Array Value} {s : Ix} (h : Core w wr b hm lm kB N cs s) {g : Nat} (hlo : w.heap.size ≤ g) (ht : Ty wr g 21) (hne : g ≠ kB) (i : Nat) (v : Value) : Core w (wr.setCell ⟨g, i, none⟩ v) b hm lm kB N cs s :=
  h.of (h.bel.setCell hlo v) (heap_setCell_other _ _ _ _ (ht.ne h.tyb (by decide)).symm) (heap_setCell_other _ _ _ _ hne.symm) (fun k hk => heap_setCell_other _ _ _ _ (ht.ne_map hk).symm) (fun k hk => heap_setCell_other _ _ _ _ (ht.ne hk (by decide)).symm)
theorem Core.setB {w wr : World} {b hm lm kB N : Nat} {cs : Array Value} {s : Ix} (h : Core w wr b hm lm kB N cs s) (i : Nat) (v : Value) : Core w (wr.setCell ⟨b, i, none⟩ v) b hm lm kB N (cs.setIfInBounds i v) s := by
  refine ⟨h.bel.setCell h.lob v, heap_setCell_same _ _ _ _ _ _ h.blk, h.kof.of_heap (heap_setCell_other _ _ _ _ (h.tyb.ne h.kof.ty (by decide)).symm), h.less.of_heap (heap_setCell_other _ _ _ _ (h.tyb.ne_map h.less.mp).symm), ?_, h.hml, h.lob, h.lohm, h.lolm, h.lok⟩
  obtain ⟨F, hF⟩ := h.hold
  exact ⟨F, hF.of (heap_setCell_other _ _ _ _ (h.tyb.ne_map hF.map.mp).symm) (fun k hk => heap_setCell_other _ _ _ _ (h.tyb.ne hk (by decide)).symm)⟩
/-- kindOf[g] = k. -/
theorem Core.setKof {w wr : World} {b hm lm kB N : Nat} {cs : Array Value} {s : Ix} (h : Core w wr b hm lm kB N cs s) (g : Nat) (k : Int) : Core w (wr.setCell ⟨kB, g, none⟩ (.int .i32 k)) b hm lm kB N cs { s with kindOf := Idx.upd s.kindOf g k } := by
  refine ⟨h.bel.setCell h.lok _, (heap_setCell_other _ _ _ _ (h.tyb.ne h.kof.ty (by decide))).trans h.blk, (h.kof.set g _).congr (fun i _ => ?_), h.less.of_heap (heap_setCell_other _ _ _ _ (h.kof.ty.ne_map h.less.mp).symm), ?_, h.hml, h.lob, h.lohm, h.lolm, h.lok⟩
  · show (if i = g then Value.int .i32 k else .int .i32 (s.kindOf i)) = .int .i32 (if (i : Int) = (g : Int) then k else s.kindOf i)
    by_cases he : i = g
    · rw [if_pos he, if_pos (by omega)]
    · rw [if_neg he, if_neg (by omega)]
  · obtain ⟨F, hF⟩ := h.hold
    exact ⟨F, hF.of (heap_setCell_other _ _ _ _ (h.kof.ty.ne_map hF.map.mp).symm) (fun k hk => heap_setCell_other _ _ _ _ (h.kof.ty.ne hk (by decide)).symm)⟩
/-- The store into letterless. -/
theorem Core.setLess {w wr : World} {b hm lm kB N : Nat} {cs : Array Value} {s : Ix} (h : Core w wr b hm lm kB N cs s) (g k : Int) :
    ∃ w', (Instr.mapUpdate 81 (.map (some lm)) (.int .i64 g) (.int .i32 k)).run Try.prog wr = .ok () w' ∧ Core w w' b hm lm kB N cs { s with less := Idx.upd s.less g (some k), nless := if (s.less g).isSome then s.nless else s.nless + 1 } ∧ But lm wr w' := by
  obtain ⟨w', h1, h2, h3⟩ := h.less.store (P := Try.prog) (t := 81) Try.underlying81 Try.underlying3 g (.int .i32 k)
  refine ⟨w', h1, ⟨⟨h3.os.trans h.bel.os, h3.tape.trans h.bel.tape, h3.output.trans h.bel.output, by rw [h3.size]; exact h.bel.size, fun k hk => (h3.block k (by have := h.lolm; omega)).trans (h.bel.block k hk)⟩,
    (h3.block b (h.tyb.ne_map h.less.mp)).trans h.blk, h.kof.of_heap (h3.block kB (h.kof.ty.ne_map h.less.mp)), ?_, ?_, h.hml, h.lob, h.lohm, h.lolm, h.lok⟩, h3⟩
  · have e : (if ((s.less g).map (Value.int .i32)).isSome = true then s.nless else s.nless + 1) = (if (s.less g).isSome = true then s.nless else s.nless + 1) := by rw [Option.isSome_map]
    simp only [e] at h2
    refine h2.congr (fun a => ?_)
    show (if a = g then some (Value.int .i32 k) else (s.less a).map (.int .i32)) = (if a = g then some k else s.less a).map (.int .i32)
    by_cases he : a = g
    · rw [if_pos he, if_pos he]; rfl
    · rw [if_neg he, if_neg he]
  · obtain ⟨F, hF⟩ := h.hold
    exact ⟨F, hF.of (h3.block hm h.hml) (fun k hk => h3.block k (hk.ne_map h.less.mp))⟩
theorem Core.setHd {w wr w2 : World} {b hm lm kB N : Nat} {cs : Array Value} {s : Ix} (h : Core w wr b hm lm kB N cs s) (hd : Hd) (hb : Below w.heap.size w w2) (eb : w2.heap[b]? = wr.heap[b]?) (ek : w2.heap[kB]? = wr.heap[kB]?) (el : w2.heap[lm]? = wr.heap[lm]?) (hh : ∃ F, HMap w.heap.size w2 hm hd F) :
    Core w w2 b hm lm kB N cs { s with hd := hd } :=
  ⟨hb, eb.trans h.blk, h.kof.of_heap ek, h.less.of_heap el, hh, h.hml, h.lob, h.lohm, h.lolm, h.lok⟩

/-! The statement 'index.kinds, count = append(index.kinds, t), append(count, 0)', whose order is drawn. -/
inductive Ph where
  | zero
  | built (e : Nat)
  | done (v : Value)
/-- How far an append is: its row, the one element laid. -/
def Ph.ok (base : Nat) (wx : World) (e : TypeId) (size : Nat) (v : Value) (n : Nat) (xs news : List Value) (bad : Nat) : Ph → Prop
  | .zero => wx.ownsRow base e size v n xs ∧ v.ownBlock ≠ some bad
  | .built q => (wx.ownsRow base e size v n xs ∧ v.ownBlock ≠ some bad) ∧ wx.heap[q]? = some (.cells news.toArray e (0, 0)) ∧ v.ownBlock ≠ some q
  | .done u => wx.ownsRow base e size u (n + 1) (xs ++ news) ∧ u.ownBlock ≠ some bad
theorem Ph.ok_of {base : Nat} {wx wy : World} {e : TypeId} {size : Nat} {v : Value} {n : Nat} {xs news : List Value} {bad : Nat} {p : Ph} (h : p.ok base wx e size v n xs news bad) (he : ∀ k, Ty wx k e → wy.heap[k]? = wx.heap[k]?) : p.ok base wy e size v n xs news bad := by
  cases p with
  | zero => exact ⟨own_of h.1 (fun g hg => he g (own_ty h.1 hg)), h.2⟩
  | built q => exact ⟨⟨own_of h.1.1 (fun g hg => he g (own_ty h.1.1 hg)), h.1.2⟩, (he q ⟨_, _, h.2.1⟩).trans h.2.1, h.2.2⟩
  | done u => exact ⟨own_of h.1 (fun g hg => he g (own_ty h.1 hg)), h.2⟩

structure R16 (w wx : World) (b hm lm kB N : Nat) (cs : Array Value) (s : Ix) (vk vc : Value) (t : Ct) (bx : Nat) (A B : Ph) : Prop where
  core : Core w wx b hm lm kB N cs s
  a : A.ok w.heap.size wx 73 3 vk s.kinds.length (kcells s.kinds) (tcells t) kB
  c : B.ok w.heap.size wx 21 1 vc s.count.length (s.count.map (.int .i32)) [.int .i32 0] kB
  lea : s.kinds.length ≤ 32768
  lec : s.count.length ≤ 32768
  box : wx.heap[bx]? = some (.cells #[.int .i64 t.g, .slice t.a t.l t.c, .float .f64 t.wt] 73 (0, 0))
  nbx : vk.ownBlock ≠ some bx

theorem Ph.alloc {base : Nat} {wx : World} {e : TypeId} {size : Nat} {v : Value} {n : Nat} {xs news : List Value} {bad : Nat} {p : Ph} (h : p.ok base wx e size v n xs news bad) (o : Obj) : p.ok base (wx.alloc o) e size v n xs news bad :=
  Ph.ok_of h (fun _ hk => Below.heap_alloc _ _ _ hk.lt)
theorem Ph.build {base : Nat} {wx : World} {e : TypeId} {size : Nat} {v : Value} {n : Nat} {xs news : List Value} {bad : Nat} (h : Ph.zero.ok base wx e size v n xs news bad) : (Ph.built wx.heap.size).ok base (wx.alloc (.cells news.toArray e)) e size v n xs news bad := by
  have h' : Ph.zero.ok base (wx.alloc (.cells news.toArray e)) e size v n xs news bad := Ph.alloc h _
  refine ⟨h', heap_alloc_new wx _, fun hb => ?_⟩
  have := (own_ty h.1 hb).lt
  omega
theorem R16.bxlt {w wx : World} {b hm lm kB N : Nat} {cs : Array Value} {s : Ix} {vk vc : Value} {t : Ct} {bx : Nat} {A B : Ph} (h : R16 w wx b hm lm kB N cs s vk vc t bx A B) : bx < wx.heap.size := (Array.getElem?_eq_some_iff.1 h.box).1
theorem R16.allocA {w wx : World} {b hm lm kB N : Nat} {cs : Array Value} {s : Ix} {vk vc : Value} {t : Ct} {bx : Nat} {B : Ph} (h : R16 w wx b hm lm kB N cs s vk vc t bx .zero B) : R16 w (wx.alloc (.cells #[.int .i64 t.g, .slice t.a t.l t.c, .float .f64 t.wt] 73)) b hm lm kB N cs s vk vc t bx (.built wx.heap.size) B :=
  ⟨h.core.alloc _, Ph.build h.a, Ph.alloc h.c _, h.lea, h.lec, (Below.heap_alloc _ _ _ h.bxlt).trans h.box, h.nbx⟩
theorem R16.allocB {w wx : World} {b hm lm kB N : Nat} {cs : Array Value} {s : Ix} {vk vc : Value} {t : Ct} {bx : Nat} {A : Ph} (h : R16 w wx b hm lm kB N cs s vk vc t bx A .zero) : R16 w (wx.alloc (.cells #[.int .i32 0] 21)) b hm lm kB N cs s vk vc t bx A (.built wx.heap.size) :=
  ⟨h.core.alloc _, Ph.alloc h.a _, Ph.build h.c, h.lea, h.lec, (Below.heap_alloc _ _ _ h.bxlt).trans h.box, h.nbx⟩
theorem R16.drew {w wx : World} {b hm lm kB N : Nat} {cs : Array Value} {s : Ix} {vk vc : Value} {t : Ct} {bx : Nat} {A B : Ph} (h : R16 w wx b hm lm kB N cs s vk vc t bx A B) : R16 w wx.drew b hm lm kB N cs s vk vc t bx A B :=
  ⟨h.core.drewN 1, Ph.ok_of h.a (fun _ _ => rfl), Ph.ok_of h.c (fun _ _ => rfl), h.lea, h.lec, h.box, h.nbx⟩
theorem R16.cell0 {w wx : World} {b hm lm kB N : Nat} {cs : Array Value} {s : Ix} {vk vc : Value} {t : Ct} {bx : Nat} {A B : Ph} (h : R16 w wx b hm lm kB N cs s vk vc t bx A B) {i : Nat} {v : Value} (hv : cs[i]? = some v) : wx.cell? ⟨b, i, none⟩ = some v ∧ wx.frozen? ⟨b, i, none⟩ = false ∧ ∀ o, (wx.alloc o).cell? ⟨b, i, none⟩ = some v ∧ (wx.alloc o).frozen? ⟨b, i, none⟩ = false := by
  have h1 := h.core.blk
  have h2 := fun o => (h.core.alloc o).blk
  exact ⟨by rw [cell_of_row _ _ _ _ _ _ h1]; exact hv, frozen_of_row _ _ _ _ _ h1, fun o => ⟨by rw [cell_of_row _ _ _ _ _ _ (h2 o)]; exact hv, frozen_of_row _ _ _ _ _ (h2 o)⟩⟩

theorem info73' : ∃ i0, Try.prog.info? 73 = some i0 ∧ i0.zero = some (.agg #[.int .i64 0, .slice none 0 0, .float .f64 0]) ∧ i0.size = 3 ∧ i0.bytes = 40 := by
  obtain ⟨i0, hi, hz0, hz1, hz2⟩ := info_parts info73
  exact ⟨i0, hi, hz0, hz1, hz2⟩
theorem info21' : ∃ i0, Try.prog.info? 21 = some i0 ∧ i0.zero = some (.int .i32 0) ∧ i0.size = 1 ∧ i0.bytes = 4 := by
  obtain ⟨i0, hi, hz0, hz1, hz2⟩ := info_parts info21
  exact ⟨i0, hi, hz0, hz1, hz2⟩

/-- The box' cells. -/
@[reducible] def Bx (wx : World) (bx : Nat) (t : Ct) : Prop := wx.cell? ⟨bx, 0, none⟩ = some (.int .i64 t.g) ∧ wx.cell? ⟨bx, 1, none⟩ = some (.slice t.a t.l t.c) ∧ wx.cell? ⟨bx, 2, none⟩ = some (.float .f64 t.wt)
theorem bx_of {wx : World} {bx : Nat} {t : Ct} (h : wx.heap[bx]? = some (.cells #[.int .i64 t.g, .slice t.a t.l t.c, .float .f64 t.wt] 73 (0, 0))) : Bx wx bx t :=
  ⟨by rw [cell_of_row _ _ _ _ _ _ h]; rfl, by rw [cell_of_row _ _ _ _ _ _ h]; rfl, by rw [cell_of_row _ _ _ _ _ _ h]; rfl⟩
theorem R16.bx3 {w wx : World} {b hm lm kB N : Nat} {cs : Array Value} {s : Ix} {vk vc : Value} {t : Ct} {bx : Nat} {A B : Ph} (h : R16 w wx b hm lm kB N cs s vk vc t bx A B) : Bx wx bx t := bx_of h.box
theorem R16.boxs {w wx : World} {b hm lm kB N : Nat} {cs : Array Value} {s : Ix} {vk vc : Value} {t : Ct} {bx : Nat} {A B : Ph} (h : R16 w wx b hm lm kB N cs s vk vc t bx A B) (v : Value) : (wx.setCell ⟨b, 0, none⟩ v).heap[bx]? = some (.cells #[.int .i64 t.g, .slice t.a t.l t.c, .float .f64 t.wt] 73 (0, 0)) :=
  (heap_setCell_other _ _ _ _ (fun e : bx = b => by have h1 := h.box; rw [e, h.core.blk] at h1; cases h1)).trans h.box
theorem R16.bx3s {w wx : World} {b hm lm kB N : Nat} {cs : Array Value} {s : Ix} {vk vc : Value} {t : Ct} {bx : Nat} {A B : Ph} (h : R16 w wx b hm lm kB N cs s vk vc t bx A B) (v : Value) : Bx (wx.setCell ⟨b, 0, none⟩ v) bx t :=
  bx_of ((heap_setCell_other _ _ _ _ (fun e : bx = b => by have h1 := h.box; rw [e, h.core.blk] at h1; cases h1)).trans h.box)

theorem R16.stepA {ops : Array Oper} {o : Oper} {a : Act} {K : Act → World → Prop} {Q : Exit → Act → World → Prop} {E : Prop} {w wx : World} {b hm lm kB N : Nat} {cs : Array Value} {s : Ix} {vk vc : Value} {t : Ct} {bx : Nat} {B : Ph} {e : Nat}
    (hgd : o.guard = none) (sO x : Operand) (ho : o.op = .call { callee := .builtin .append, args := #[sO, x], argTypes := #[44, 44] }) (h : R16 w wx b hm lm kB N cs s vk vc t bx (.built e) B) (hs : a.eval sO = vk) (hx : a.eval x = .slice (some ⟨e, 0, none⟩) 1 1)
    (hK : ∀ g cap w', R16 w w' b hm lm kB N cs s vk vc t bx (.done (.slice (some ⟨g, 0, none⟩) (s.kinds.length + 1) cap)) B → K (a.put o.dst (.slice (some ⟨g, 0, none⟩) (s.kinds.length + 1) cap)) w') :
    if Region.wanted o (yielded ops a.tmps) = true then Oper.wp Try.prog o a wx K Q else E := by
  obtain ⟨i0, hi, hz0, hz1, hz2⟩ := info73'
  obtain ⟨⟨h1, h1b⟩, h2, h3⟩ := h.a
  have hlea := h.lea
  refine step_append_lies wx hgd sO x 44 ho w.heap.size 73 i0 _ 3 40 Try.underlying44 hi hz0 hz1 hz2 rfl (by decide) vk s.kinds.length (kcells s.kinds) hs h1 ⟨e, 0, none⟩ 1 1 (tcells t) hx rfl (fun j u hu => World.news_of_block h2 j u (by simpa using hu)) (by simp [tcells, Value.oneCell']) (by omega) (by unfold maxLen; omega) (by omega) h.core.bel.size wx.heap.size rfl (fun g cap w' hown hgrow hat _ => hK g cap w' ?_)
  have hr : ∀ q, vk.ownBlock = some q → Ty wx q 73 := fun q hq => own_ty h1 hq
  refine ⟨h.core.grow hgrow (fun q hq => ⟨(h1.lt q hq).1, .inl (hr q hq)⟩), ⟨hown, ?_⟩, Ph.ok_of h.c (fun k hk => hgrow.block k hk.lt (fun e => (hr k e.symm).ne hk (by decide) rfl)), h.lea, h.lec, (hgrow.block _ h.bxlt (fun e => h.nbx e.symm)).trans h.box, h.nbx⟩
  intro e0
  have e0 : g = kB := by simpa [Value.ownBlock] using e0
  subst e0
  rcases hat with e1 | e1
  · exact h1b e1
  · have := h.core.kof.lt; omega
theorem R16.stepB {ops : Array Oper} {o : Oper} {a : Act} {K : Act → World → Prop} {Q : Exit → Act → World → Prop} {E : Prop} {w wx : World} {b hm lm kB N : Nat} {cs : Array Value} {s : Ix} {vk vc : Value} {t : Ct} {bx : Nat} {A : Ph} {e : Nat}
    (hgd : o.guard = none) (sO x : Operand) (ho : o.op = .call { callee := .builtin .append, args := #[sO, x], argTypes := #[30, 30] }) (h : R16 w wx b hm lm kB N cs s vk vc t bx A (.built e)) (hs : a.eval sO = vc) (hx : a.eval x = .slice (some ⟨e, 0, none⟩) 1 1)
    (hK : ∀ g cap w', R16 w w' b hm lm kB N cs s vk vc t bx A (.done (.slice (some ⟨g, 0, none⟩) (s.count.length + 1) cap)) → K (a.put o.dst (.slice (some ⟨g, 0, none⟩) (s.count.length + 1) cap)) w') :
    if Region.wanted o (yielded ops a.tmps) = true then Oper.wp Try.prog o a wx K Q else E := by
  obtain ⟨i0, hi, hz0, hz1, hz2⟩ := info21'
  obtain ⟨⟨h1, h1b⟩, h2, h3⟩ := h.c
  have hlec := h.lec
  refine step_append_lies wx hgd sO x 30 ho w.heap.size 21 i0 _ 1 4 Try.underlying30 hi hz0 hz1 hz2 rfl (by decide) vc s.count.length (s.count.map (.int .i32)) hs h1 ⟨e, 0, none⟩ 1 1 [.int .i32 0] hx rfl (fun j u hu => World.news_of_block h2 j u (by simpa using hu)) (by simp [Value.oneCell']) (by omega) (by unfold maxLen; omega) (by omega) h.core.bel.size wx.heap.size rfl (fun g cap w' hown hgrow hat _ => hK g cap w' ?_)
  have hr : ∀ q, vc.ownBlock = some q → Ty wx q 21 := fun q hq => own_ty h1 hq
  refine ⟨h.core.grow hgrow (fun q hq => ⟨(h1.lt q hq).1, .inr ⟨hr q hq, fun e => h1b (by rw [← e]; exact hq)⟩⟩), Ph.ok_of h.a (fun k hk => hgrow.block k hk.lt (fun e => (hr k e.symm).ne hk (by decide) rfl)), ⟨hown, ?_⟩, h.lea, h.lec, (hgrow.block _ h.bxlt (fun e => (hr _ e.symm).ne ⟨_, _, h.box⟩ (by decide) rfl)).trans h.box, h.nbx⟩
  intro e0
  have e0 : g = kB := by simpa [Value.ownBlock] using e0
  subst e0
  rcases hat with e1 | e1
  · exact h1b e1
  · have := h.core.kof.lt; omega

/-- The index while the contents are read. -/
structure IxSt (w wr : World) (b hm lm kB N : Nat) (cs : Array Value) (s : Ix) (vk vc : Value) : Prop where
  core : Core w wr b hm lm kB N cs s
  ks : wr.ownsRow w.heap.size 73 3 vk s.kinds.length (kcells s.kinds)
  cs : wr.ownsRow w.heap.size 21 1 vc s.count.length (s.count.map (.int .i32))
  ne : vc.ownBlock ≠ some kB
theorem IxSt.alloc {w wr : World} {b hm lm kB N : Nat} {cs : Array Value} {s : Ix} {vk vc : Value} (h : IxSt w wr b hm lm kB N cs s vk vc) (o : Obj) : IxSt w (wr.alloc o) b hm lm kB N cs s vk vc := ⟨h.core.alloc o, h.ks.alloc o, h.cs.alloc o, h.ne⟩
theorem IxSt.drewN {w wr : World} {b hm lm kB N : Nat} {cs : Array Value} {s : Ix} {vk vc : Value} (h : IxSt w wr b hm lm kB N cs s vk vc) (j : Nat) : IxSt w (wr.drewN j) b hm lm kB N cs s vk vc := ⟨h.core.drewN j, h.ks, h.cs, h.ne⟩
theorem IxSt.setKof {w wr : World} {b hm lm kB N : Nat} {cs : Array Value} {s : Ix} {vk vc : Value} (h : IxSt w wr b hm lm kB N cs s vk vc) (g : Nat) (k : Int) : IxSt w (wr.setCell ⟨kB, g, none⟩ (.int .i32 k)) b hm lm kB N cs { s with kindOf := Idx.upd s.kindOf g k } vk vc :=
  ⟨h.core.setKof g k, own_of h.ks (fun q hq => heap_setCell_other _ _ _ _ ((own_ty h.ks hq).ne h.core.kof.ty (by decide))), own_of h.cs (fun q hq => heap_setCell_other _ _ _ _ (fun e : q = kB => h.ne (by rw [← e]; exact hq))), h.ne⟩
theorem IxSt.setLess {w wr : World} {b hm lm kB N : Nat} {cs : Array Value} {s : Ix} {vk vc : Value} (h : IxSt w wr b hm lm kB N cs s vk vc) (g k : Int) :
    ∃ w', (Instr.mapUpdate 81 (.map (some lm)) (.int .i64 g) (.int .i32 k)).run Try.prog wr = .ok () w' ∧ IxSt w w' b hm lm kB N cs { s with less := Idx.upd s.less g (some k), nless := if (s.less g).isSome then s.nless else s.nless + 1 } vk vc ∧ But lm wr w' := by
  obtain ⟨w', h1, h2, h3⟩ := h.core.setLess g k
  exact ⟨w', h1, ⟨h2, own_of h.ks (fun q hq => h3.block q ((own_ty h.ks hq).ne_map h.core.less.mp)), own_of h.cs (fun q hq => h3.block q ((own_ty h.cs hq).ne_map h.core.less.mp)), h.ne⟩, h3⟩
theorem IxSt.r16 {w wr : World} {b hm lm kB N : Nat} {cs : Array Value} {s : Ix} {vk vc : Value} (h : IxSt w wr b hm lm kB N cs s vk vc) (t : Ct) (bx : Nat) (hbx : wr.heap[bx]? = some (.cells #[.int .i64 t.g, .slice t.a t.l t.c, .float .f64 t.wt] 73 (0, 0))) (hnb : vk.ownBlock ≠ some bx) (hlea : s.kinds.length ≤ 32768) (hlec : s.count.length ≤ 32768) : R16 w wr b hm lm kB N cs s vk vc t bx .zero .zero :=
  ⟨h.core, ⟨h.ks, fun e => (own_ty h.ks e).ne h.core.kof.ty (by decide) rfl⟩, ⟨h.cs, h.ne⟩, hlea, hlec, hbx, hnb⟩
theorem R16.fin {w wx : World} {b hm lm kB N : Nat} {cs : Array Value} {s : Ix} {vk vc : Value} {t : Ct} {bx : Nat} {u v : Value} (h : R16 w wx b hm lm kB N cs s vk vc t bx (.done u) (.done v)) :
    IxSt w (wx.setCell ⟨b, 0, none⟩ u) b hm lm kB N (cs.setIfInBounds 0 u) { s with kinds := s.kinds ++ [t], count := s.count ++ [0] } u v := by
  have c := h.core.setB 0 u
  refine ⟨⟨c.bel, c.blk, c.kof, c.less, c.hold, c.hml, c.lob, c.lohm, c.lolm, c.lok⟩, ?_, ?_, h.c.2⟩
  · have h1 := own_of (w' := wx.setCell ⟨b, 0, none⟩ u) h.a.1 (fun q hq => heap_setCell_other _ _ _ _ ((own_ty h.a.1 hq).ne h.core.tyb (by decide)))
    show World.ownsRow _ _ _ _ _ (s.kinds ++ [t]).length (kcells (s.kinds ++ [t]))
    rw [kcells_snoc]
    simpa using h1
  · have h1 := own_of (w' := wx.setCell ⟨b, 0, none⟩ u) h.c.1 (fun q hq => heap_setCell_other _ _ _ _ ((own_ty h.c.1 hq).ne h.core.tyb (by decide)))
    show World.ownsRow _ _ _ _ _ (s.count ++ [0]).length ((s.count ++ [0]).map (.int .i32))
    simpa using h1
/-- count[k]++ -/
theorem IxSt.bumpf {w wr : World} {b hm lm kB N : Nat} {cs : Array Value} {s : Ix} {vk vc : Value} (h : IxSt w wr b hm lm kB N cs s vk vc) (g : Int) (k : Nat) (hk : s.kindOf g = (k : Int)) (hkl : k < s.count.length) :
    ∃ gc cap, vc = .slice (some ⟨gc, 0, none⟩) s.count.length cap ∧ wr.cell? ⟨gc, k, none⟩ = some (.int .i32 (s.count.getD k 0)) ∧ wr.frozen? ⟨gc, k, none⟩ = false ∧
      IxSt w (wr.setCell ⟨gc, k, none⟩ (.int .i32 (s.count.getD k 0 + 1))) b hm lm kB N cs (s.bump g) vk vc := by
  have hl : k < (s.count.map (Value.int .i32)).length := by simpa using hkl
  obtain ⟨gc, cap, hv, hb, hty, hc, hf, hset⟩ := own_cell h.cs hl
  have hgd : s.count[k]? = some (s.count.getD k 0) := by rw [List.getD_eq_getElem?_getD, List.getElem?_eq_getElem hkl]; rfl
  have hne : gc ≠ kB := fun e => h.ne (by rw [hv, ← e]; rfl)
  refine ⟨gc, cap, hv, hc k _ (by rw [List.getElem?_map, hgd]; rfl), hf k, ⟨?_, ?_, ?_, h.ne⟩⟩
  · have c := h.core.put hb hty hne k (.int .i32 (s.count.getD k 0 + 1))
    exact ⟨c.bel, c.blk, c.kof, c.less, c.hold, c.hml, c.lob, c.lohm, c.lolm, c.lok⟩
  · exact own_of h.ks (fun q hq => heap_setCell_other _ _ _ _ ((own_ty h.ks hq).ne hty (by decide)))
  · have e : (s.bump g).count = s.count.set k (s.count.getD k 0 + 1) := by
      show s.count.set (s.kindOf g).toNat (s.count.getD (s.kindOf g).toNat 0 + 1) = _
      rw [hk, Int.toNat_natCast]
    rw [e, List.length_set, List.map_set]
    exact hset k _ hl
theorem IxSt.cell {w wr : World} {b hm lm kB N : Nat} {cs : Array Value} {s : Ix} {vk vc : Value} (h : IxSt w wr b hm lm kB N cs s vk vc) {i : Nat} {v : Value} (hv : cs[i]? = some v) : wr.cell? ⟨b, i, none⟩ = some v ∧ wr.frozen? ⟨b, i, none⟩ = false := by
  have h1 := h.core.blk
  exact ⟨by rw [cell_of_row _ _ _ _ _ _ h1]; exact hv, frozen_of_row _ _ _ _ _ h1⟩
theorem IxSt.congr {w wr : World} {b hm lm kB N : Nat} {cs : Array Value} {s s' : Ix} {vk vc : Value} (h : IxSt w wr b hm lm kB N cs s vk vc) (e : s = s') : IxSt w wr b hm lm kB N cs s' vk vc := e ▸ h
end Go.Proofs.Qxb6600550a.Rad
