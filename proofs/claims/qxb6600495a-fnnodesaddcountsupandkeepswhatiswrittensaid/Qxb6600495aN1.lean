import Derived.Test.Qxb6600495aN0
namespace Go.Proofs.Qxb6600495a.Nodes
open Go.RowKit

theorem run_copy_wide {P : Program} (w : World) (dT sT ty elem : TypeId) (g dLen dCap : Nat) (a : Addr) (sLen sCap : Nat) (cur : Array Value) (t : TypeId) (cs : List Value) (size : Nat)
    (hu : P.underlying dT = some (.slice elem)) (hs : (P.info? elem).map (·.size) = some size)
    (hg : w.heap[g]? = some (.cells cur t (0, 0))) (hn : cs.length = Nat.min sLen dLen * size)
    (hsrc : ∀ j v, cs[j]? = some v → w.cell? (a.add j) = some v) (hfit : cs.length ≤ cur.size) (h1 : ∀ v ∈ cs, v.oneCell' = true) :
    (Builtin.copy_ #[dT, sT] ty #[.slice (some ⟨g, 0, none⟩) dLen dCap, .slice (some a) sLen sCap]).run P w =
      .ok (goInt (Nat.min sLen dLen)) (w.setRow g (cs ++ cur.toList.drop cs.length).toArray) := by
  have hl := run_loadCells_list (P := P) w a cs hsrc
  have hst := run_storeCells_at P g 0 t cs 0 cur w hg (by simpa using hfit) h1
  cases hq : P.info? elem with
  | none => simp [hq] at hs
  | some i =>
    have hi : i.size = size := by simpa [hq] using hs
    simp [Builtin.copy_, run_underlying hu, Builtin.lenOf, Builtin.firstCells, sizeOf, typeInfo, hq, hi, ← hn, hl, hst]

theorem wpList_copy_wide {P : Program} {w : World} {ops : Array Oper} {rest : List Oper} {o : Oper} {a : Act} {Q : Exit → Act → World → Prop} (hgd : o.guard = none) (d s : Operand) (dT sT : TypeId)
    (ho : o.op = .call { callee := .builtin .copy, args := #[d, s], argTypes := #[dT, sT] }) (elem : TypeId) (hu : P.underlying dT = some (.slice elem)) (size : Nat) (hsz : (P.info? elem).map (·.size) = some size)
    (g dLen dCap : Nat) (ad : Addr) (sLen sCap : Nat) (hd : a.eval d = .slice (some ⟨g, 0, none⟩) dLen dCap) (hs : a.eval s = .slice (some ad) sLen sCap)
    (cur : Array Value) (t : TypeId) (hg : w.heap[g]? = some (.cells cur t (0, 0))) (cs : List Value) (hn : cs.length = Nat.min sLen dLen * size)
    (hsrc : ∀ j v, cs[j]? = some v → w.cell? (ad.add j) = some v) (hfit : cs.length ≤ cur.size) (h1 : ∀ v ∈ cs, v.oneCell' = true)
    (h : ∀ w2, w2.heap[g]? = some (.cells (cs ++ cur.toList.drop cs.length).toArray t (0, 0)) → w.grownBy w2 (some g) → wpList P ops Q rest (a.put o.dst (goInt (Nat.min sLen dLen))) w2) :
    wpList P ops Q (o :: rest) a w := by
  refine wpList_plain hgd fun K hK => ?_
  have hrun := run_copy_wide (P := P) w dT sT o.type elem g dLen dCap ad sLen sCap cur t cs size hu hsz hg hn hsrc hfit h1
  unfold Oper.wp
  simp [execOp, ho, resolve, invoke, builtin, hd, hs, hrun, Result.andThen]
  refine hK _ _ (h _ (by simpa using setRow_heap w g cur _ t _ hg) ⟨rfl, rfl, rfl, by simp, fun k _ hk => setRow_other w g k _ (fun e => hk (by simp [e]))⟩)

theorem copied (Z : Array Value) (M L : Nat) (w : World) (g : Nat) (xs : Array Value) (hLM : L ≤ M) (hZ : Z.size = M * 7) (hxs : xs.size = L * 7) (hx1 : ∀ u ∈ xs, u.oneCell' = true)
    (hgx : w.heap[g]? = some (.cells xs 39 (0, 0))) :
    ∃ w2, (∀ k, Sem.run Try.prog (Builtin.copy_ #[53, 53] 3 #[.slice (some ⟨w.heap.size, 0, none⟩) M M, .slice (some ⟨g, 0, none⟩) L L]) ((w.drewN k).alloc (.cells Z 39)) = .ok (goInt L) (w2.drewN k)) ∧
      w2.heap[w.heap.size]? = some (.cells (xs ++ Z.extract (L * 7) (M * 7)) 39 (0, 0)) ∧ w.grownBy w2 none ∧ w2.heap.size = w.heap.size + 1 := by
  have hlt : g < w.heap.size := (Array.getElem?_eq_some_iff.1 hgx).1
  refine ⟨(w.alloc (.cells Z 39)).setRow w.heap.size (xs ++ Z.extract (L * 7) (M * 7)), fun k => ?_, ?_, ?_, ?_⟩
  · have h39 : (Try.prog.info? 39).map (·.size) = some 7 := by kernel_rfl
    have hmin : Nat.min L M = L := Nat.min_eq_left hLM
    have h := run_copy_wide (P := Try.prog) ((w.drewN k).alloc (.cells Z 39)) 53 53 3 39 w.heap.size M M ⟨g, 0, none⟩ L L Z 39 xs.toList 7 Try.underlying53 h39 (heap_alloc_new (w.drewN k) _) (by rw [hmin]; simpa using hxs)
      (fun j v hv => by
        have hadd : (⟨g, 0, none⟩ : Addr).add j = ⟨g, j, none⟩ := by unfold Addr.add; split <;> simp_all
        have hh : ((w.drewN k).alloc (.cells Z 39)).heap[g]? = some (.cells xs 39 (0, 0)) := (Below.heap_alloc (w.drewN k) _ g hlt).trans hgx
        rw [hadd, cell_of_row _ g j xs 39 (0, 0) hh]
        simpa using hv) (by simp; rw [hxs, hZ]; exact Nat.mul_le_mul_right _ hLM) (by simpa using hx1)
    rw [hmin] at h
    rw [h]
    have e : (xs.toList ++ Z.toList.drop xs.toList.length).toArray = xs ++ Z.extract (L * 7) (M * 7) := by
      apply Array.toList_inj.1
      simp [hxs, ← hZ]
      rw [List.take_of_length_le (by simp)]
    rw [e]
    rfl
  · exact setRow_heap _ _ _ _ _ _ (heap_alloc_new w _)
  · refine ⟨rfl, rfl, rfl, by simp, fun k hk _ => ?_⟩
    rw [setRow_other _ _ _ _ (by omega)]
    exact Below.heap_alloc w _ k hk
  · simp

set_option maxRecDepth 100000 in
set_option maxHeartbeats 3200000 in
theorem add_grow (Z : Array Value) (M : Nat) (w : World) (p b m cap g n : Nat) (xs : Array Value) (hn : n < 65536)
    (hM : M = min (2 * (n % 4096)) 4096) (hZ : Z.size = M * 7) (hxs : xs.size = n % 4096 * 7) (hx1 : ∀ u ∈ xs, u.oneCell' = true) (hL : 1 ≤ n % 4096)
    (hmk : ∀ w', (Instr.makeSlice 53 (.int .i32 M) (.int .i32 M)).run Try.prog w' = .ok (.slice (some ⟨w'.heap.size, 0, none⟩) M M) (w'.alloc (.cells Z 39)))
    (h0 : w.cell? ⟨p, 0, none⟩ = some (.slice (some ⟨b, 0, none⟩) m cap)) (h1 : w.cell? ⟨p, 1, none⟩ = some (.int .i32 n)) (f0 : w.frozen? ⟨p, 0, none⟩ = false) (f1 : w.frozen? ⟨p, 1, none⟩ = false)
    (hpb : b ≠ p) (hm : n / 4096 < m) (hg : w.cell? ⟨b, n / 4096, none⟩ = some (.slice (some ⟨g, 0, none⟩) (n % 4096) (n % 4096))) (fg : w.frozen? ⟨b, n / 4096, none⟩ = false)
    (hgx : w.heap[g]? = some (.cells xs 39 (0, 0))) :
    Calls Try.prog 26 #[.pointer (some ⟨p, 0, none⟩)] w fun e w' => e = .returned (.tuple #[.int .i32 n, .pointer (some ⟨w.heap.size, n % 4096 * 7, none⟩)]) ∧
      ∃ w2, w2.heap[w.heap.size]? = some (.cells (xs ++ Z.extract (n % 4096 * 7) (M * 7)) 39 (0, 0)) ∧ w.grownBy w2 none ∧ w2.heap.size = w.heap.size + 1 ∧
        Same ((w2.setCell ⟨b, n / 4096, none⟩ (.slice (some ⟨w.heap.size, 0, none⟩) M M)).setCell ⟨p, 1, none⟩ (.int .i32 (n + 1))) w' := by
  obtain ⟨w2, hcp, hz2, hgr, hsz⟩ := copied Z M (n % 4096) w g xs (by omega) hZ hxs hx1 hgx
  clear hgx hx1
  have hb := i32_and4095 n
  have hm' : (n : Int) / 4096 < (m : Int) := by omega
  have t1 : ((n : Int) / 4096 == (m : Int)) = false := by simp; omega
  have t2 : ((n : Int) % 4096 == ((n % 4096 : Nat) : Int)) = true := by simp
  have hA1 : ∀ k c t, ((w.drewN k).alloc (.cells c t)).cell? ⟨p, 0, none⟩ = some (.slice (some ⟨b, 0, none⟩) m cap) := fun k c t => (keep_alloc (w := w.drewN k) ⟨h0, f0⟩).1
  have hA2 : ∀ k c t, ((w.drewN k).alloc (.cells c t)).cell? ⟨b, n / 4096, none⟩ = some (.slice (some ⟨g, 0, none⟩) (n % 4096) (n % 4096)) := fun k c t => (keep_alloc (w := w.drewN k) ⟨hg, fg⟩).1
  obtain ⟨c0, k0⟩ := keep_grow hgr (by simp) ⟨h0, f0⟩
  obtain ⟨c1, k1⟩ := keep_grow hgr (by simp) ⟨h1, f1⟩
  obtain ⟨c2, k2⟩ := keep_grow hgr (by simp) ⟨hg, fg⟩
  have hpb' : p ≠ b := fun h => hpb h.symm
  have hLM : (n : Int) % 4096 < (M : Int) := by omega
  have HZ : Hid (w2.heap[w.heap.size]? = some (.cells (xs ++ Z.extract (n % 4096 * 7) (M * 7)) 39 (0, 0)) ∧ w.grownBy w2 none ∧ w2.heap.size = w.heap.size + 1) := ⟨hz2, hgr, hsz⟩
  clear hz2 hgr hsz hZ hxs
  by_cases hc : 2 * (n % 4096) ≤ 4096
  · have hc' : 2 * ((n : Int) % 4096) ≤ 4096 := by omega
    obtain rfl : M = 2 * (n % 4096) := by omega
    have e2 : ((2 * (n % 4096) : Nat) : Int) = 2 * ((n : Int) % 4096) := by omega
    rw [e2] at hmk
    clear e2 hM
    go_enter Try.func26, Try.ntmps26
    go_wp2
    go_quiet (fail)
    go_wp2
    go_quiet (fail)
    go_wp2
    go_ret2
    exact ⟨by simp; done, w2, HZ.out.1, HZ.out.2.1, HZ.out.2.2, rfl, rfl, rfl, rfl⟩
  · have hc' : 4096 < 2 * ((n : Int) % 4096) := by omega
    obtain rfl : M = 4096 := by omega
    rw [show ((4096 : Nat) : Int) = 4096 from rfl] at hmk
    clear hM
    go_enter Try.func26, Try.ntmps26
    go_wp2
    go_quiet (fail)
    go_wp2
    go_quiet (fail)
    go_wp2
    go_ret2
    exact ⟨by simp; done, w2, HZ.out.1, HZ.out.2.1, HZ.out.2.2, rfl, rfl, rfl, rfl⟩
end Go.Proofs.Qxb6600495a.Nodes
