import Derived.Test.Qxb6600550aA6
namespace Go.Proofs.Qxb6600550a.Rad
open Go.RowKit

theorem rank_q (r : Nat) (i k : Int) (w : World) : Calls Try.prog 12 #[.agg #[.int .u64 (r : Nat), .pointer none, .int .i32 i, .int .i32 k]] w fun e w' => e = .returned (.int .u64 (r : Nat)) ∧ ∃ o, w' = w.alloc o :=
  (rank_any r i k w).mono fun _ _ ⟨h1, h2⟩ => ⟨h1, _, h2⟩
theorem tag_q (r : Nat) (i k : Int) (w : World) : Calls Try.prog 13 #[.agg #[.int .u64 (r : Nat), .pointer none, .int .i32 i, .int .i32 k]] w fun e w' => e = .returned (.int .i32 i) ∧ ∃ o, w' = w.alloc o :=
  (tag_any r i k w).mono fun _ _ ⟨h1, h2⟩ => ⟨h1, _, h2⟩

theorem make4 (n : Nat) (hn : n ≤ 1048576) : ∃ M : Array Value, (∀ w : World, (Instr.makeSlice 65 (.int .i64 (n : Int)) (.int .i64 (n : Int))).run Try.prog w = .ok (.slice (some ⟨w.heap.size, 0, none⟩) n n) (w.alloc (.cells M 4))) ∧
    ∀ w : World, Seen (w.alloc (.cells M 4)) w.heap.size n (fun _ => false) := by
  have h4 : (Try.prog.info? 4).map (fun i => (i.zero, i.size, i.bytes)) = some (some (.bool false), 1, 1) := by kernel_rfl
  obtain ⟨i0, hi, hz0, hz1, hz2⟩ := info_parts h4
  refine ⟨madeCells (Value.bool false).cells (n * 1), fun w => ?_, fun w => ⟨_, heap_alloc_new w _, fun i hi => ?_⟩⟩
  · have h := run_make (P := Try.prog) w 65 4 i0 (.bool false) Try.underlying65 hi hz0 .i64 .i64 n n (by omega) (by omega) (by rw [hz2]; omega) (by omega)
    simpa [hz1] using h
  · have e : (madeCells (Value.bool false).cells (n * 1)).toList = List.replicate n (.bool false) := by rw [Nat.mul_one]; exact toList_madeCells_one _ _
    rw [← Array.getElem?_toList, e, List.getElem?_replicate, if_pos hi]

set_option maxRecDepth 100000 in
set_option maxHeartbeats 600000 in
theorem stable_row (b off n cap g cX : Nat) (zs : List (Nat × Int)) (os : List Cd) (w : World) (hn : n ≤ 32768) (h0 : 0 < n) (hc : CRow w (some ⟨b, off, none⟩) n zs) (ho : Buf w g n os) (hg : Good zs os) :
    Calls Try.prog 10 #[.slice (some ⟨b, off, none⟩) n cap, .slice (some ⟨g, 0, none⟩) n cX] w fun e w' => e = .returned (.bool true) ∧ Below w.heap.size w w' := by
  obtain ⟨M, hmk, hMs⟩ := make4 n (by omega)
  have hbl : b < w.heap.size := by
    obtain ⟨b', off', e, c4⟩ := hc.2.2 h0
    simp only [Option.some.injEq, Addr.mk.injEq, and_true] at e
    obtain ⟨rfl, rfl⟩ := e
    exact World.block_lt_of_cell? w _ (c4 0 _ (List.getElem?_eq_getElem (by rw [hc.1]; exact h0))).1
  have hM0 : Seen (w.alloc (.cells M 4)) w.heap.size n (met os 0) := by
    have e : met os 0 = fun _ => false := funext (fun i => met_zero os i)
    rw [e]; exact hMs w
  have HI0 : Hid (QSt w (w.alloc (.cells M 4)) (some ⟨b, off, none⟩) n zs g os w.heap.size (met os 0)) :=
    ⟨hc.kept ((Below.refl _ _).alloc (Nat.le_refl _) _), ho.of_heap (Below.heap_alloc _ _ _ ho.lt), hM0, (Below.refl _ _).alloc (Nat.le_refl _) _, Nat.le_refl _, fun x hx _ => by obtain rfl := Option.some.inj hx; exact hbl⟩
  have HG : Hid (Good zs os) := hg
  have HL : Hid (zs.length = n ∧ os.length = n) := ⟨hc.1, ho.len⟩
  clear hMs hc ho hg hbl hM0
  go_enter Try.func10, Try.ntmps10
  go_wp2
  go_loopw [7] (fun i wr => ∃ q : Nat, q ≤ n ∧ i = .int .i64 q ∧ Hid (QSt w wr (some ⟨b, off, none⟩) n zs g os w.heap.size (met os q))) (fun i _ => n - (intOf i).toNat)
  case atStart => exact ⟨0, Nat.zero_le _, rfl, HI0⟩
  case round =>
    obtain ⟨q, hq, rfl, HQ⟩ := hrel
    clear HI0 hmk
    by_cases hlt : q < n
    · obtain ⟨c, hc⟩ : ∃ c, os[q]? = some c := ⟨_, List.getElem?_eq_getElem (by rw [HL.out.2]; exact hlt)⟩
      obtain ⟨p, hp, hz⟩ := HG.out.src q c hc
      obtain ⟨rk, ti, ki⟩ := c
      have hpn : p < n := by have := (List.getElem?_eq_some_iff.1 hz).1; rw [HL.out.1] at this; exact this
      simp only at hp hz
      subst hp
      have hnew := met_new HG.out q _ hc p rfl
      have HC : Hid (os[q]? = some (rk, (p : Int), ki)) := hc
      have HZ : Hid (zs[p]? = some (rk, ki)) := hz
      have HM : Hid (met os q p = false) := hnew
      clear hc hz hnew
      obtain ⟨⟨c0, c1, c2, c3⟩, _⟩ := HQ.out.at HC.out
      go_wp2_with fail
      refine (tag_q _ _ _ _).mono ?_
      rintro e w1 ⟨rfl, o1, hw1⟩
      have H1 : Hid (QSt w w1 (some ⟨b, off, none⟩) n zs g os w.heap.size (met os q)) := by rw [hw1]; exact HQ.out.alloc o1
      clear hw1 HQ c0 c1 c2 c3
      obtain ⟨s0, s1⟩ := H1.out.s.cell hpn
      rw [HM.out] at s0
      have H2 : Hid (QSt w (w1.setCell ⟨w.heap.size, p, none⟩ (.bool true)) (some ⟨b, off, none⟩) n zs g os w.heap.size (met os (q + 1))) := (H1.out.see p).congr (fun i _ => met_succ os q _ HC.out p i rfl)
      obtain ⟨⟨d0, d1, d2, d3⟩, _⟩ := H2.out.at HC.out
      go_wp2_with fail
      refine (rank_q _ _ _ _).mono ?_
      rintro e w3 ⟨rfl, o3, hw3⟩
      have H3 : Hid (QSt w w3 (some ⟨b, off, none⟩) n zs g os w.heap.size (met os (q + 1))) := by rw [hw3]; exact H2.out.alloc o3
      clear hw3 H1 H2 s0 s1 d0 d1 d2 d3
      obtain ⟨⟨c0, c1, c2, c3⟩, ca⟩ := H3.out.at HC.out
      obtain ⟨⟨z0, z1⟩, za⟩ := H3.out.of h0 HZ.out
      have ca0 := fun o => (ca o).1
      have ca1 := fun o => (ca o).2.1
      have ca2 := fun o => (ca o).2.2.1
      have ca3 := fun o => (ca o).2.2.2
      have za0 := fun o => (za o).1
      have za1 := fun o => (za o).2
      clear ca za
      have hneq : ((rk : Int) != (rk : Int)) = false := by simp
      have hneq2 : (ki != ki) = false := by simp
      have hp0 : (0 : Int) ≤ (p : Int) := by omega
      have hp1 : (p : Int) < (n : Int) := by omega
      have hq0 : (0 : Int) ≤ (q : Int) := by omega
      have hq1 : (q : Int) < (n : Int) := by omega
      go_wp2
      go_region_held3 (fun wx => wx.cell? ⟨g, q * 4, none⟩ = some (.int .u64 (rk : Nat)) ∧ wx.cell? ⟨g, q * 4 + 1, none⟩ = some (.pointer none) ∧ wx.cell? ⟨g, q * 4 + 2, none⟩ = some (.int .i32 (p : Int)) ∧ wx.cell? ⟨g, q * 4 + 3, none⟩ = some (.int .i32 ki) ∧
          wx.cell? ⟨b, off + p * 2, none⟩ = some (.int .u64 (rk : Nat)) ∧ wx.cell? ⟨b, off + p * 2 + 1, none⟩ = some (.int .i32 ki))
        (first | (exact ⟨c0, c1, c2, c3, z0, z1⟩) | (exact ⟨ca0 _, ca1 _, ca2 _, ca3 _, za0 _, za1 _⟩))
        ((go_at_call 14; refine (kind_any _ _ _ _).mono ?_; rintro e w' ⟨rfl, rfl⟩))
      have H4 : Hid (QSt w (w3.alloc (.cells #[.int .u64 (rk : Nat), .pointer none, .int .i32 (p : Int), .int .i32 ki] 35)).drew (some ⟨b, off, none⟩) n zs g os w.heap.size (met os (q + 1))) := (H3.out.alloc _).drewN 1
      clear c0 c1 c2 c3 z0 z1 ca0 ca1 ca2 ca3 za0 za1 H3
      by_cases hqz : q = 0
      · subst hqz
        go_wp2
        go_roundw
        case rel => exact ⟨1, by omega, by go_num, H4⟩
        case measure => simp [intOf]; omega
      · obtain ⟨q', rfl⟩ : ∃ q', q = q' + 1 := ⟨q - 1, by omega⟩
        obtain ⟨c', hc'⟩ : ∃ c, os[q']? = some c := ⟨_, List.getElem?_eq_getElem (by rw [HL.out.2]; omega)⟩
        obtain ⟨rk', ti', ki'⟩ := c'
        obtain ⟨p', hp', hz'⟩ := HG.out.src q' _ hc'
        simp only at hp'
        subst hp'
        have hord := HG.out.ord q' _ _ hc' HC.out
        simp only at hord
        generalize (w3.alloc (.cells #[.int .u64 (rk : Nat), .pointer none, .int .i32 (p : Int), .int .i32 ki] 35)).drew = w4 at H4 ⊢
        obtain ⟨⟨d0, d1, d2, d3⟩, _⟩ := H4.out.at hc'
        have HC' : Hid (os[q']? = some (rk', (p' : Int), ki')) := hc'
        clear hc' hz' hqz
        go_wp2_with fail
        refine (rank_q _ _ _ _).mono ?_
        rintro e w5 ⟨rfl, o5, hw5⟩
        have H5 : Hid (QSt w w5 (some ⟨b, off, none⟩) n zs g os w.heap.size (met os (q' + 1 + 1))) := by rw [hw5]; exact H4.out.alloc o5
        clear hw5 H4 d0 d1 d2 d3 hneq hneq2
        rcases hord with hord | ⟨hrr, hord⟩
        · have ht1 : ((rk' : Int) == (rk : Int)) = false := by simp; omega
          go_wp2
          go_roundw
          case rel => exact ⟨q' + 1 + 1, by omega, by go_num, H5⟩
          case measure => simp [intOf]; omega
        · subst hrr
          obtain ⟨⟨d0, d1, d2, d3⟩, _⟩ := H5.out.at HC'.out
          have ht1 : ((rk' : Int) == (rk' : Int)) = true := by simp
          go_wp2_with fail
          refine (tag_q _ _ _ _).mono ?_
          rintro e w6 ⟨rfl, o6, hw6⟩
          have H6 : Hid (QSt w w6 (some ⟨b, off, none⟩) n zs g os w.heap.size (met os (q' + 1 + 1))) := by rw [hw6]; exact H5.out.alloc o6
          clear hw6 H5 d0 d1 d2 d3
          go_wp2
          go_roundw
          case rel => exact ⟨q' + 1 + 1, by omega, by go_num, H6⟩
          case measure => simp [intOf]; omega
    · go_wp2
      go_ret
      exact ⟨rfl, HQ.out.bel⟩

theorem stable_none (a : Option Addr) (cap g cX : Nat) (w : World) :
    Calls Try.prog 10 #[.slice a 0 cap, .slice (some ⟨g, 0, none⟩) 0 cX] w fun e w' => e = .returned (.bool true) ∧ Below w.heap.size w w' := by
  obtain ⟨M, hmk, hMs⟩ := make4 0 (by omega)
  rw [show ((0 : Nat) : Int) = 0 from rfl] at hmk
  clear hMs
  go_enter Try.func10, Try.ntmps10
  go_wp2
  refine wp_loop_rounds 1 ?_
  rw [rounds_succ]
  go_wp2
  go_ret
  exact ⟨rfl, (Below.refl _ _).alloc (Nat.le_refl _) _⟩

/-- zzStableDescending says yes to a good list. -/
theorem stable_any (a : Option Addr) (n cap g cX : Nat) (zs : List (Nat × Int)) (os : List Cd) (w : World) (hn : n ≤ 32768) (hc : CRow w a n zs) (ho : Buf w g n os) (hg : Good zs os) :
    Calls Try.prog 10 #[.slice a n cap, .slice (some ⟨g, 0, none⟩) n cX] w fun e w' => e = .returned (.bool true) ∧ Below w.heap.size w w' := by
  by_cases h0 : n = 0
  · subst h0
    exact stable_none a cap g cX w
  · obtain ⟨b, off, rfl, _⟩ := hc.2.2 (by omega)
    exact stable_row b off n cap g cX zs os w hn (by omega) hc ho hg

theorem zzb_no (a0 a1 : Option Addr) (n0 c0 n1 c1 : Nat) (w : World) (h0 : n0 ≤ 9223372036854775807) (h1 : n1 ≤ 9223372036854775807) (h : 1048576 < n0 + n1) :
    Calls Try.prog 7 #[.slice a0 n0 c0, .slice a1 n1 c1] w fun e w' => e = .returned (.bool false) ∧ w' = w := by
  by_cases h2 : 1048576 < n0
  · go_enter Try.func7, Try.ntmps7
    go_wp2
    go_ret
    exact ⟨rfl, rfl⟩
  · by_cases h3 : 1048576 < n1
    · go_enter Try.func7, Try.ntmps7
      go_wp2
      go_ret
      exact ⟨rfl, rfl⟩
    · go_enter Try.func7, Try.ntmps7
      go_wp2
      go_ret
      exact ⟨rfl, rfl⟩
theorem zzb_yes (a0 a1 : Option Addr) (n0 c0 n1 c1 : Nat) (w : World) (h : n0 + n1 ≤ 1048576) :
    Calls Try.prog 7 #[.slice a0 n0 c0, .slice a1 n1 c1] w fun e w' => e = .returned (.bool true) ∧ w' = w := by
  go_enter Try.func7, Try.ntmps7
  go_wp2
  go_ret
  exact ⟨rfl, rfl⟩
theorem zzb2_no (a0 a1 : Option Addr) (n0 c0 n1 c1 : Nat) (w : World) (h0 : n0 ≤ 9223372036854775807) (h1 : n1 ≤ 9223372036854775807) (h : 1048576 < n0 + n1) :
    Calls Try.prog 11 #[.slice a0 n0 c0, .slice a1 n1 c1] w fun e w' => e = .returned (.bool false) ∧ w' = w := by
  by_cases h2 : 1048576 < n0
  · go_enter Try.func11, Try.ntmps11
    go_wp2
    go_ret
    exact ⟨rfl, rfl⟩
  · by_cases h3 : 1048576 < n1
    · go_enter Try.func11, Try.ntmps11
      go_wp2
      go_ret
      exact ⟨rfl, rfl⟩
    · go_enter Try.func11, Try.ntmps11
      go_wp2
      go_ret
      exact ⟨rfl, rfl⟩
theorem zzb2_yes (a0 a1 : Option Addr) (n0 c0 n1 c1 : Nat) (w : World) (h : n0 + n1 ≤ 1048576) :
    Calls Try.prog 11 #[.slice a0 n0 c0, .slice a1 n1 c1] w fun e w' => e = .returned (.bool true) ∧ w' = w := by
  go_enter Try.func11, Try.ntmps11
  go_wp2
  go_ret
  exact ⟨rfl, rfl⟩
end Go.Proofs.Qxb6600550a.Rad
