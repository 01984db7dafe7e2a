import Derived.Test.Qxb6600550aD4
namespace Go.Proofs.Qxb6600550a.Rad
open Go.RowKit Go.Proofs.Qxb6600550a.Idx

theorem toCt_empty (a : Option Addr) (cap : Nat) (sh : Int) (w : World) :
    Calls Try.prog 17 #[.slice a 0 cap, .int .i64 sh] w fun e w' => e = .returned (.slice (some ⟨w.heap.size, 0, none⟩) 0 0) ∧ ∃ us, us.length = 0 ∧ OutSt w w' 0 sh [] us := by
  obtain ⟨M, hmk, hMb⟩ := make73 0 (by omega)
  have HO0 : Hid (OutSt w (w.alloc (.cells M 73)) 0 sh [] []) := ⟨by simpa using hMb w, by simp, by simp, (Below.refl _ _).alloc (Nat.le_refl _) _⟩
  rw [show ((0 : Nat) : Int) = 0 from rfl] at hmk
  clear hMb
  go_enter Try.func17, Try.ntmps17
  go_wp2
  refine wp_loop_rounds 1 ?_
  rw [rounds_succ]
  go_wp2
  go_ret
  exact ⟨rfl, [], rfl, HO0.out⟩

/-- A slice of contents: where it holds any, they lie in a row. -/
def CtSl (w : World) (a : Option Addr) (n : Nat) (ts : List Ct) : Prop := ts.length = n ∧ (0 < n → ∃ G off, a = some ⟨G, off, none⟩ ∧ CtRow w G off n ts)
theorem CtSl.kept {w w' : World} {a : Option Addr} {n : Nat} {ts : List Ct} (h : CtSl w a n ts) (hb : Below w.heap.size w w') : CtSl w' a n ts := by
  refine ⟨h.1, fun h0 => ?_⟩
  obtain ⟨G, off, e, hr⟩ := h.2 h0
  exact ⟨G, off, e, hr.kept hb⟩

/-- The contents that zzToContents makes: a row of their own. -/
theorem OutSt.row' {w wr : World} {n : Nat} {sh : Int} {ts us : List Ct} (h : OutSt w wr n sh ts us) (hl : us.length = n) : CtRow wr w.heap.size 0 n us := by
  refine ⟨hl, h.row.lt, fun j t hj => ?_, fun j t hj => ?_⟩
  · have := h.row.cells (j := j) (v := ctv t) (by rw [List.getElem?_map, hj]; rfl)
    rw [Nat.zero_add]; exact this
  · obtain ⟨h1, h2⟩ := h.chs t (List.mem_of_getElem? hj)
    refine ⟨h1, fun h0 => ?_⟩
    obtain ⟨b, e1, _, e3⟩ := h2 h0
    refine ⟨b, 0, e1, e3.lt, fun i r m x hi => ?_⟩
    have := e3.cells (j := i) (v := chv (r, m, x)) (by rw [List.getElem?_map, hi]; rfl)
    rw [Nat.zero_add]; exact this

theorem toCt_any (a : Option Addr) (n cap : Nat) (sh : Int) (ts : List Ct) (w : World) (hn : n ≤ 32768) (h : CtSl w a n ts) (hlen : ∀ t ∈ ts, t.l ≤ 65536) (hg : ∀ t ∈ ts, 0 ≤ t.g ∧ t.g ≤ 65536) (hs : 0 ≤ sh ∧ sh ≤ 32768) :
    Calls Try.prog 17 #[.slice a n cap, .int .i64 sh] w fun e w' => ∃ us, e = .returned (.slice (some ⟨w.heap.size, 0, none⟩) n n) ∧ CtRow w' w.heap.size 0 n us ∧ (∀ (j : Nat) t u, ts[j]? = some t → us[j]? = some u → Made sh t u) ∧ Below w.heap.size w w' := by
  by_cases h0 : n = 0
  · subst h0
    obtain rfl : ts = [] := List.eq_nil_of_length_eq_zero h.1
    refine (toCt_empty a cap sh w).mono ?_
    rintro e w' ⟨h1, us, h2, h3⟩
    exact ⟨us, h1, h3.row' h2, h3.rel, h3.bel⟩
  · obtain ⟨G, off, rfl, hr⟩ := h.2 (by omega)
    refine (toCt_row G off n cap sh ts w hn hr hlen hg hs).mono ?_
    rintro e w' ⟨h1, us, h2, h3⟩
    exact ⟨us, h1, h3.row' h2, h3.rel, h3.bel⟩
end Go.Proofs.Qxb6600550a.Rad
