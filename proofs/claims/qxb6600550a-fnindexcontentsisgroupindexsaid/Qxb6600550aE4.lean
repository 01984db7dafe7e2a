import Derived.Test.Qxb6600550aE2
namespace Go.Proofs.Qxb6600550a.Rad
open Go.RowKit Go.Proofs.Qxb6600550a.Idx

theorem info86 : (Try.prog.info? 86).map (fun i => (i.zero, i.size, i.bytes)) = some (some (.agg #[.int .i32 0, .int .i32 0]), 2, 8) := by kernel_rfl
/-- What a block must be to stay through a step of the holdings. -/
def Far (wv : World) (hm q : Nat) : Prop := q < wv.heap.size ∧ ¬ Ty wv q 86 ∧ q ≠ hm
theorem Ty.far {wv : World} {hm q : Nat} {e : TypeId} (h : Ty wv q e) (he : e ≠ 86) (hh : Mp wv hm) : Far wv hm q := ⟨h.lt, fun h' => h.ne h' he rfl, h.ne_map hh⟩

/-- index.holdings[c.r] = append(index.holdings[c.r], holding{kind: k, n: c.n}) -/
theorem stepH {ops : Array Oper} {o : Oper} {a : Act} {K : Act → World → Prop} {Q : Exit → Act → World → Prop} {E : Prop} {w wv : World} {b hm lm kB N : Nat} {cs : Array Value} {s : Ix} {vk vc : Value} {F : Int → Option Value} {ua : Option Addr} {uc : Nat} (k : Int) (c : Ch)
    (hgd : o.guard = none) (sO x : Operand) (ho : o.op = .call { callee := .builtin .append, args := #[sO, x], argTypes := #[84, 84] }) (h : IxSt w wv b hm lm kB N cs s vk vc) (hF : HMap w.heap.size wv hm s.hd F) (hu : (F c.1).getD (.slice none 0 0) = .slice ua (s.hd.h c.1).length uc)
    (hlen : (s.hd.h c.1).length ≤ 4294967296) (hs : a.eval sO = .slice ua (s.hd.h c.1).length uc) (hx : a.eval x = .slice (some ⟨wv.heap.size, 0, none⟩) 1 1)
    (hK : ∀ g cap w1 w2, (Instr.mapUpdate 80 (.map (some hm)) (.int .i32 c.1) (.slice (some ⟨g, 0, none⟩) ((s.hd.h c.1).length + 1) cap)).run Try.prog w1 = .ok () w2 → IxSt w w2 b hm lm kB N cs { s with hd := s.hd.step k c } vk vc →
      (∀ q, Far wv hm q → w1.heap[q]? = wv.heap[q]? ∧ w2.heap[q]? = wv.heap[q]?) → K (a.put o.dst (.slice (some ⟨g, 0, none⟩) ((s.hd.h c.1).length + 1) cap)) w1) :
    if Region.wanted o (yielded ops a.tmps) = true then Oper.wp Try.prog o a (wv.alloc (.cells #[.int .i32 k, .int .i32 c.2.1] 86)).drew K Q else E := by
  obtain ⟨i0, hi, hz0, hz1, hz2⟩ := info_parts info86
  have hcur := hF.cur c.1
  rw [hu] at hcur
  obtain ⟨we, hwe⟩ : ∃ we, we = (wv.alloc (.cells #[.int .i32 k, .int .i32 c.2.1] 86)).drew := ⟨_, rfl⟩
  have hes : we.heap.size = wv.heap.size + 1 := by rw [hwe]; simp
  have heh : ∀ q, q < wv.heap.size → we.heap[q]? = wv.heap[q]? := fun q hq => by rw [hwe]; exact Below.heap_alloc _ _ _ hq
  have hnew : we.heap[wv.heap.size]? = some (.cells #[.int .i32 k, .int .i32 c.2.1] 86 (0, 0)) := by rw [hwe]; exact heap_alloc_new wv _
  have hbe : Below w.heap.size w we := by rw [hwe]; have := h.core.bel.alloc h.core.bel.size (.cells #[.int .i32 k, .int .i32 c.2.1] 86); exact ⟨this.os, this.tape, this.output, this.size, this.block⟩
  have hFe : HMap w.heap.size we hm s.hd F := hF.of (heh hm hF.map.lt) (fun q hq => heh q hq.lt)
  have hcure : we.ownsRow w.heap.size 86 2 (.slice ua (s.hd.h c.1).length uc) (s.hd.h c.1).length (hcells (s.hd.h c.1)) := own_of hcur (fun g hg => heh g (own_ty hcur hg).lt)
  rw [← hwe]
  refine step_append_lies we hgd sO x 84 ho w.heap.size 86 i0 _ 2 8 Try.underlying84 hi hz0 hz1 hz2 rfl (by decide) _ _ (hcells (s.hd.h c.1)) hs hcure ⟨wv.heap.size, 0, none⟩ 1 1 [.int .i32 k, .int .i32 c.2.1] hx rfl (fun j u hu => World.news_of_block hnew j u (by simpa using hu)) (by simp [Value.oneCell']) (by omega) (by unfold maxLen; omega) (by omega) hbe.size we.heap.size rfl (fun g cap w1 hown hgrow hat _ => ?_)
  obtain ⟨w2, hmu, ⟨F', hF'⟩, hbut⟩ := hFe.step (P := Try.prog) Try.underlying80 Try.underlying21 k c hown (by rw [hu]; exact hgrow) (by rw [hu]; exact hat.imp id (fun e => by omega))
  have hrow : ∀ q, (Value.slice ua (s.hd.h c.1).length uc).ownBlock = some q → Ty wv q 86 ∧ w.heap.size ≤ q := fun q hq => ⟨own_ty hcur hq, (hcur.lt q hq).1⟩
  have hfr : ∀ q, Far wv hm q → w1.heap[q]? = wv.heap[q]? ∧ w2.heap[q]? = wv.heap[q]? := fun q hq => by
    have e1 : w1.heap[q]? = wv.heap[q]? := (hgrow.block q (by have := hq.1; omega) (fun e => hq.2.1 (hrow q e.symm).1)).trans (heh q hq.1)
    exact ⟨e1, (hbut.block q hq.2.2).trans e1⟩
  have hbw1 : Below w.heap.size w w1 := hbe.grown hgrow hbe.size (fun q hq => (hrow q hq).2)
  have hbw2 : Below w.heap.size w w2 := ⟨hbut.os.trans hbw1.os, hbut.tape.trans hbw1.tape, hbut.output.trans hbw1.output, by rw [hbut.size]; exact hbw1.size, fun q hq => (hbut.block q (by have := h.core.lohm; omega)).trans (hbw1.block q hq)⟩
  have hmp := hF.map.mp
  refine hK g cap w1 w2 hmu ⟨?_, ?_, ?_, h.ne⟩ hfr
  · exact h.core.setHd _ hbw2 (hfr b (h.core.tyb.far (by decide) hmp)).2 (hfr kB (h.core.kof.ty.far (by decide) hmp)).2 (hfr lm ⟨h.core.less.lt, fun e => e.ne_map h.core.less.mp rfl, h.core.hml.symm⟩).2 ⟨F', hF'⟩
  · exact own_of h.ks (fun q hq => (hfr q ((own_ty h.ks hq).far (by decide) hmp)).2)
  · exact own_of h.cs (fun q hq => (hfr q ((own_ty h.cs hq).far (by decide) hmp)).2)

/-- What the region of holdings reads. -/
@[reducible] def Three (wx : World) (b hm bc : Nat) (r n : Int) : Prop := wx.cell? ⟨b, 3, none⟩ = some (.map (some hm)) ∧ wx.cell? ⟨bc, 0, none⟩ = some (.int .i32 r) ∧ wx.cell? ⟨bc, 1, none⟩ = some (.int .i32 n)
theorem Three.of {w wx : World} {b hm bc : Nat} {r n : Int} (h : Three w b hm bc r n) (e1 : wx.heap[b]? = w.heap[b]?) (e2 : wx.heap[bc]? = w.heap[bc]?) : Three wx b hm bc r n :=
  ⟨(World.cell?_of_block e1).trans h.1, (World.cell?_of_block e2).trans h.2.1, (World.cell?_of_block e2).trans h.2.2⟩
end Go.Proofs.Qxb6600550a.Rad
