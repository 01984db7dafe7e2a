import Derived.Test.Qxb6600550aC9
import Derived.Test.Qxb6600550aC2
namespace Go.Proofs.Qxb6600550a.Rad
open Go.RowKit Go.Proofs.Qxb6600550a.Idx

/-- A slice's characters, wherever they lie. -/
def ChRow (w : World) (a : Option Addr) (l : Nat) (chs : List Ch) : Prop :=
  chs.length = l ∧ (0 < l → ∃ b off, a = some ⟨b, off, none⟩ ∧ b < w.heap.size ∧ ∀ j r m x, chs[j]? = some (r, m, x) →
    w.cell? ⟨b, off + j * 3, none⟩ = some (.int .i32 r) ∧ w.cell? ⟨b, off + j * 3 + 1, none⟩ = some (.int .i32 m) ∧ w.cell? ⟨b, off + j * 3 + 2, none⟩ = some (.float .f64 x))
theorem ChRow.kept {w w' : World} {a : Option Addr} {l : Nat} {chs : List Ch} (h : ChRow w a l chs) (hb : Below w.heap.size w w') : ChRow w' a l chs := by
  obtain ⟨h1, h2⟩ := h
  refine ⟨h1, fun h0 => ?_⟩
  obtain ⟨b, off, e, hl, hc⟩ := h2 h0
  refine ⟨b, off, e, Nat.lt_of_lt_of_le hl hb.size, fun j r m x hj => ?_⟩
  obtain ⟨c0, c1, c2⟩ := hc j r m x hj
  exact ⟨(hb.cell (p := ⟨b, _, none⟩) hl).trans c0, (hb.cell (p := ⟨b, _, none⟩) hl).trans c1, (hb.cell (p := ⟨b, _, none⟩) hl).trans c2⟩

/-- A row of contents from cell off of block G on. -/
structure CtRow (w : World) (G off n : Nat) (ts : List Ct) : Prop where
  len : ts.length = n
  lt : G < w.heap.size
  cell : ∀ (j : Nat) (t : Ct), ts[j]? = some t → w.cell? ⟨G, off + j * 3, none⟩ = some (.int .i64 t.g) ∧ w.cell? ⟨G, off + j * 3 + 1, none⟩ = some (.slice t.a t.l t.c) ∧ w.cell? ⟨G, off + j * 3 + 2, none⟩ = some (.float .f64 t.wt)
  chs : ∀ (j : Nat) (t : Ct), ts[j]? = some t → ChRow w t.a t.l t.chs
theorem CtRow.kept {w w' : World} {G off n : Nat} {ts : List Ct} (h : CtRow w G off n ts) (hb : Below w.heap.size w w') : CtRow w' G off n ts := by
  refine ⟨h.len, Nat.lt_of_lt_of_le h.lt hb.size, fun j t hj => ?_, fun j t hj => (h.chs j t hj).kept hb⟩
  obtain ⟨c0, c1, c2⟩ := h.cell j t hj
  exact ⟨(hb.cell (p := ⟨G, _, none⟩) h.lt).trans c0, (hb.cell (p := ⟨G, _, none⟩) h.lt).trans c1, (hb.cell (p := ⟨G, _, none⟩) h.lt).trans c2⟩
end Go.Proofs.Qxb6600550a.Rad
