import Derived.Test.Qxb6600550aB0
namespace Go.Proofs.Qxb6600550a.Rad
open Go.RowKit

theorem rk_rad (xs : List Cd) (h : Rk xs) (k : Nat) : Rk (rad xs k) := fun c hc => h c ((rad_perm xs k).mem_iff.1 hc)

set_option maxRecDepth 100000 in
theorem start4 {w w3 : World} {n gX gY : Nat} {os vs : List Cd} {MR MT : Array Value} (KR : ∀ w : World, VRow (w.alloc (.cells MR 31)) w.heap.size n 31 (fun _ => .int .u64 0)) (KT : ∀ w : World, VRow (w.alloc (.cells MT 21)) w.heap.size n 21 (fun _ => .int .i32 0))
    (x : Buf w3 gX n os) (y : Buf w3 gY n vs) (bel : Below w.heap.size w w3) :
    RSt w (((w3.alloc (.cells MR 31)).alloc (.cells MT 21)).alloc (.cells MT 21)) n gX gY os vs w3.heap.size (w3.heap.size + 1) (w3.heap.size + 1 + 1) (val gr (.int .u64 0) os 0) (val gt (.int .i32 0) os 0) (val gk (.int .i32 0) os 0) := by
  have hs : w.heap.size ≤ w3.heap.size := bel.size
  have e1 : (w3.alloc (.cells MR 31)).heap.size = w3.heap.size + 1 := by simp
  have e2 : ((w3.alloc (.cells MR 31)).alloc (.cells MT 21)).heap.size = w3.heap.size + 1 + 1 := by simp
  have hx := x.lt
  have hy := y.lt
  have k1 := KR w3
  have k2 := KT (w3.alloc (.cells MR 31))
  have k3 := KT ((w3.alloc (.cells MR 31)).alloc (.cells MT 21))
  rw [e1] at k2
  rw [e2] at k3
  refine ⟨?_, ?_, ?_, ?_, ?_, by omega, ?_, by omega, by omega, by omega⟩
  · exact ((x.of_heap (Below.heap_alloc _ _ _ hx)).of_heap (Below.heap_alloc _ _ _ (by rw [e1]; omega))).of_heap (Below.heap_alloc _ _ _ (by rw [e2]; omega))
  · exact ((y.of_heap (Below.heap_alloc _ _ _ hy)).of_heap (Below.heap_alloc _ _ _ (by rw [e1]; omega))).of_heap (Below.heap_alloc _ _ _ (by rw [e2]; omega))
  · exact ((k1.of_heap (Below.heap_alloc _ _ _ (by rw [e1]; omega))).of_heap (Below.heap_alloc _ _ _ (by rw [e2]; omega))).congr (fun i _ => val_zero _ _ _ _)
  · exact (k2.of_heap (Below.heap_alloc _ _ _ (by rw [e2]; omega))).congr (fun i _ => val_zero _ _ _ _)
  · exact k3.congr (fun i _ => val_zero _ _ _ _)
  · exact ((bel.alloc hs _).alloc (by rw [e1]; omega) _).alloc (by rw [e2]; omega) _

set_option maxRecDepth 100000 in
set_option maxHeartbeats 1600000 in
theorem law4_in (a0 a1 : Option Addr) (n0 c0 n1 c1 : Nat) (zs us : List (Nat × Int)) (w : World) (h0 : n0 ≤ 32768) (h1 : n1 ≤ 32768) (h : n0 + n1 ≤ 65536) (r0 : CRow w a0 n0 zs) (r1 : CRow w a1 n1 us) :
    Calls Try.prog 4 #[.slice a0 n0 c0, .slice a1 n1 c1] w fun e w' => e = .returned (.bool true) ∧ Below w.heap.size w w' := by
  have R0 : Hid (CRow w a0 n0 zs) := r0
  have R1 : Hid (CRow w a1 n1 us) := r1
  clear r0 r1
  obtain ⟨MR, hmr, hMR⟩ := make31 n0 (by omega)
  obtain ⟨MT, hmt, hMT⟩ := make21 n0 (by omega)
  have KR : Hid (∀ w : World, VRow (w.alloc (.cells MR 31)) w.heap.size n0 31 (fun _ => .int .u64 0)) := hMR
  have KT : Hid (∀ w : World, VRow (w.alloc (.cells MT 21)) w.heap.size n0 21 (fun _ => .int .i32 0)) := hMT
  clear hMR hMT
  go_enter Try.func4, Try.ntmps4
  go_wp2_with fail
  refine (zzb2_yes a0 a1 n0 c0 n1 c1 w (by omega)).mono ?_
  rintro e w' ⟨rfl, hw'⟩
  subst hw'
  go_wp2_with fail
  refine (mk_any true a0 n0 c0 zs _ (by omega) R0.out).mono ?_
  rintro e w1 ⟨rfl, b1, l1⟩
  have B1 : Hid (Buf w1 w'.heap.size n0 (tl true zs 0) ∧ Below w'.heap.size w' w1) := ⟨b1, l1⟩
  clear b1 l1
  go_wp2_with fail
  refine (mk_any false a1 n1 c1 us _ (by omega) (R1.out.kept B1.out.2)).mono ?_
  rintro e w2 ⟨rfl, b2, l2⟩
  have T2 : Hid (Two w' w2 a0 n0 n1 w'.heap.size w1.heap.size zs (tl true zs 0) (tl false us 0)) :=
    ⟨(R0.out.kept B1.out.2).kept l2, B1.out.1.kept l2, b2, by have := B1.out.1.lt; omega, Nat.le_refl _, B1.out.2.size, B1.out.2.trans (l2.mono B1.out.2.size)⟩
  clear b2 l2
  go_wp2_with fail
  obtain ⟨mB, bs, hB1, hB2⟩ := room_of (n := n0) T2.out.y
  refine (zzsort_any w2 (fun k => k < w'.heap.size) w'.heap.size w1.heap.size n0 n0 mB n1 n1 (tl true zs 0) bs h0 (tl_rk zs R0.out.2.1 true 0) T2.out.x hB1 hB2 T2.out.ne (fun _ hk => by have := T2.out.h1; omega) (fun _ hk => by have := T2.out.h2; omega) (Nat.le_refl _) (by omega) (Nat.le_refl _) (by omega)).mono ?_
  rintro e w3 ⟨gX, cX, gY, cY, vs, rfl, s1, s2, s3, s4, s5, s6, s7, s8, s9, s10⟩
  have L3 : Below w'.heap.size w' w3 := T2.out.bel.trans ⟨s10.os, s10.tape, s10.output, s10.size, fun k hk => s10.block k (Nat.lt_of_lt_of_le hk T2.out.bel.size) hk⟩
  have hgX : w'.heap.size ≤ gX := by
    rcases Nat.lt_or_ge gX w2.heap.size with hh | hh
    · exact Nat.le_of_not_lt (s4 hh)
    · exact Nat.le_trans T2.out.bel.size hh
  have hgY : w'.heap.size ≤ gY := by
    rcases Nat.lt_or_ge gY w2.heap.size with hh | hh
    · exact Nat.le_of_not_lt (s5 hh)
    · exact Nat.le_trans T2.out.bel.size hh
  have SO : Hid (Rk (rad (tl true zs 0) 8) ∧ Good zs (rad (tl true zs 0) 8))   := ⟨rk_rad _ (tl_rk zs R0.out.2.1 true 0) 8, good_sorted zs R0.out.2.1⟩
  have SA : Hid (∀ P : List Cd → Prop, P (rad (rad (tl true zs 0) 8) 8) → P (rad (tl true zs 0) 8)) := fun P hP => by rw [← sort_again _ (tl_rk zs R0.out.2.1 true 0) (tl_tag zs 0)]; exact hP
  have S1 : Hid (Buf w3 gX n0 (rad (tl true zs 0) 8) ∧ Buf w3 gY n0 vs ∧ Below w'.heap.size w' w3 ∧ gX ≠ gY ∧ w'.heap.size ≤ gX ∧ w'.heap.size ≤ gY) := ⟨s1, s2, L3, s3, hgX, hgY⟩
  have SC : Hid (n0 ≤ cX ∧ cX ≤ 9223372036854775807 ∧ n0 ≤ cY ∧ cY ≤ 9223372036854775807) := ⟨s6, s7, s8, s9⟩
  clear s1 s2 s3 s4 s5 s6 s7 s8 s9 s10 hB1 hB2 L3 T2 B1 R1 hgX hgY
  generalize hos : rad (tl true zs 0) 8 = os at SO SA S1
  clear hos
  have hneq : ((n0 : Int) != (n0 : Int)) = false := by simp
  go_wp2_with fail
  have I0 : Hid (RSt w' (((w3.alloc (.cells MR 31)).alloc (.cells MT 21)).alloc (.cells MT 21)) n0 gX gY os vs w3.heap.size (w3.heap.size + 1) (w3.heap.size + 1 + 1) (val gr (.int .u64 0) os 0) (val gt (.int .i32 0) os 0) (val gk (.int .i32 0) os 0)) := start4 KR.out KT.out S1.out.1 S1.out.2.1 S1.out.2.2.1
  clear KR KT hmr hmt
  generalize (((w3.alloc (.cells MR 31)).alloc (.cells MT 21)).alloc (.cells MT 21)) = w4 at I0 ⊢
  go_loopw [13] (fun i wr => ∃ q : Nat, q ≤ n0 ∧ i = .int .i64 q ∧ Hid (RSt w' wr n0 gX gY os vs w3.heap.size (w3.heap.size + 1) (w3.heap.size + 1 + 1) (val gr (.int .u64 0) os q) (val gt (.int .i32 0) os q) (val gk (.int .i32 0) os q))) (fun i _ => n0 - (intOf i).toNat)
  case atStart => exact ⟨0, Nat.zero_le _, rfl, I0⟩
  case round =>
    obtain ⟨q, hq, rfl, HQ⟩ := hrel
    clear I0
    by_cases hlt : q < n0
    · obtain ⟨c, hc⟩ : ∃ c, os[q]? = some c := ⟨_, List.getElem?_eq_getElem (by rw [S1.out.1.len]; exact hlt)⟩
      obtain ⟨rk, ti, ki⟩ := c
      have HC : Hid (os[q]? = some (rk, ti, ki)) := hc
      clear hc
      obtain ⟨c0, c1, c2, c3⟩ := HQ.out.x.cells HC.out
      go_wp2_with fail
      refine (rank_q _ _ _ _).mono ?_
      rintro e w5 ⟨rfl, o5, hw5⟩
      have H1 : Hid (RSt w' w5 n0 gX gY os vs w3.heap.size (w3.heap.size + 1) (w3.heap.size + 1 + 1) (val gr (.int .u64 0) os q) (val gt (.int .i32 0) os q) (val gk (.int .i32 0) os q)) := by rw [hw5]; exact HQ.out.alloc o5
      clear hw5 HQ c0 c1 c2 c3
      obtain ⟨s0, s1⟩ := H1.out.r.cell hlt
      have H2 : Hid (RSt w' (w5.setCell ⟨w3.heap.size, q, none⟩ (.int .u64 (rk : Nat))) n0 gX gY os vs w3.heap.size (w3.heap.size + 1) (w3.heap.size + 1 + 1) (val gr (.int .u64 0) os (q + 1)) (val gt (.int .i32 0) os q) (val gk (.int .i32 0) os q)) := H1.out.setr q _ (val_succ gr _ os q _ HC.out)
      obtain ⟨c0, c1, c2, c3⟩ := H2.out.x.cells HC.out
      go_wp2_with fail
      refine (tag_q _ _ _ _).mono ?_
      rintro e w6 ⟨rfl, o6, hw6⟩
      have H3 : Hid (RSt w' w6 n0 gX gY os vs w3.heap.size (w3.heap.size + 1) (w3.heap.size + 1 + 1) (val gr (.int .u64 0) os (q + 1)) (val gt (.int .i32 0) os q) (val gk (.int .i32 0) os q)) := by rw [hw6]; exact H2.out.alloc o6
      clear hw6 H1 H2 c0 c1 c2 c3 s0 s1
      obtain ⟨s0, s1⟩ := H3.out.t.cell hlt
      have H4 : Hid (RSt w' (w6.setCell ⟨w3.heap.size + 1, q, none⟩ (.int .i32 ti)) n0 gX gY os vs w3.heap.size (w3.heap.size + 1) (w3.heap.size + 1 + 1) (val gr (.int .u64 0) os (q + 1)) (val gt (.int .i32 0) os (q + 1)) (val gk (.int .i32 0) os q)) := H3.out.sett q _ (val_succ gt _ os q _ HC.out)
      obtain ⟨c0, c1, c2, c3⟩ := H4.out.x.cells HC.out
      go_wp2_with fail
      refine (kind_q _ _ _ _).mono ?_
      rintro e w7 ⟨rfl, o7, hw7⟩
      have H5 : Hid (RSt w' w7 n0 gX gY os vs w3.heap.size (w3.heap.size + 1) (w3.heap.size + 1 + 1) (val gr (.int .u64 0) os (q + 1)) (val gt (.int .i32 0) os (q + 1)) (val gk (.int .i32 0) os q)) := by rw [hw7]; exact H4.out.alloc o7
      clear hw7 H3 H4 c0 c1 c2 c3 s0 s1
      obtain ⟨s0, s1⟩ := H5.out.k.cell hlt
      have H6 : Hid (RSt w' (w7.setCell ⟨w3.heap.size + 1 + 1, q, none⟩ (.int .i32 ki)) n0 gX gY os vs w3.heap.size (w3.heap.size + 1) (w3.heap.size + 1 + 1) (val gr (.int .u64 0) os (q + 1)) (val gt (.int .i32 0) os (q + 1)) (val gk (.int .i32 0) os (q + 1))) := H5.out.setk q _ (val_succ gk _ os q _ HC.out)
      go_wp2
      go_roundw
      case rel => exact ⟨q + 1, by omega, by go_num, H6⟩
      case measure => simp [intOf]; omega
    · obtain rfl : q = n0 := by omega
      go_wp2_with fail
      have hK : ∀ k, k < w'.heap.size → k ≠ gX ∧ k ≠ gY := fun k hk => by have := S1.out.2.2.2.2; omega
      refine (zzsort_any wr (fun k => k ≠ gX ∧ k ≠ gY) gX gY q cX q q cY os vs h0 SO.out.1 HQ.out.x HQ.out.y (.inl ⟨SC.out.2.2.1, rfl⟩) S1.out.2.2.2.1 (fun _ hk => hk.1 rfl) (fun _ hk => hk.2 rfl) SC.out.1 SC.out.2.1 SC.out.2.2.1 SC.out.2.2.2).mono ?_
      rintro e w8 ⟨gZ, cZ, gV, cV, ts, rfl, s1, s2, s3, s4, s5, s6, s7, s8, s9, s10⟩
      have C8 : Hid (CSt w' w8 q gZ os w3.heap.size (w3.heap.size + 1) (w3.heap.size + 1 + 1)) :=
        ⟨SA.out (fun l => Buf w8 gZ q l) s1,
          HQ.out.r.of_heap (s10.block _ HQ.out.r.lt ⟨(HQ.out.x.ne_row HQ.out.r (by decide)).symm, (HQ.out.y.ne_row HQ.out.r (by decide)).symm⟩),
          HQ.out.t.of_heap (s10.block _ HQ.out.t.lt ⟨(HQ.out.x.ne_row HQ.out.t (by decide)).symm, (HQ.out.y.ne_row HQ.out.t (by decide)).symm⟩),
          HQ.out.k.of_heap (s10.block _ HQ.out.k.lt ⟨(HQ.out.x.ne_row HQ.out.k (by decide)).symm, (HQ.out.y.ne_row HQ.out.k (by decide)).symm⟩),
          HQ.out.bel.trans ⟨s10.os, s10.tape, s10.output, s10.size, fun k hk => s10.block k (Nat.lt_of_lt_of_le hk HQ.out.bel.size) (hK k hk)⟩⟩
      clear s1 s2 s3 s4 s5 s6 s7 s8 s9 s10 hK HQ
      go_wp2
      go_loopw [16] (fun i wr => ∃ p : Nat, p ≤ q ∧ i = .int .i64 p ∧ Hid (CSt w' wr q gZ os w3.heap.size (w3.heap.size + 1) (w3.heap.size + 1 + 1))) (fun i _ => q - (intOf i).toNat)
      case atStart => exact ⟨0, Nat.zero_le _, rfl, C8⟩
      case round =>
        obtain ⟨p, hp, rfl, HP⟩ := hrel
        clear C8
        by_cases hlp : p < q
        · obtain ⟨c, hc⟩ : ∃ c, os[p]? = some c := ⟨_, List.getElem?_eq_getElem (by rw [S1.out.1.len]; exact hlp)⟩
          obtain ⟨rk, ti, ki⟩ := c
          have hx := HP.out.at hlp hc
          have hxa := fun o => (HP.out.alloc o).at hlp hc
          have hxb := fun o o' => ((HP.out.alloc o).alloc o').at hlp hc
          have hxc := fun o o' o'' => (((HP.out.alloc o).alloc o').alloc o'').at hlp hc
          have HA : Hid (∀ o o' o'', CSt w' (((wr.alloc o).alloc o').alloc o'') q gZ os w3.heap.size (w3.heap.size + 1) (w3.heap.size + 1 + 1)) := fun o o' o'' => ((HP.out.alloc o).alloc o').alloc o''
          have hneq1 : ((rk : Int) != (rk : Int)) = false := by simp
          have hneq2 : (ki != ki) = false := by simp
          have hneq3 : (ti != ti) = false := by simp
          have hp0 : (0 : Int) ≤ (p : Int) := by omega
          have hp1 : (p : Int) < (q : Int) := by omega
          clear HP hc
          unfold Seven at hx hxa hxb hxc
          go_wp2
          go_region_held3 (fun wx => wx.cell? ⟨gZ, p * 4, none⟩ = some (.int .u64 (rk : Nat)) ∧ wx.cell? ⟨gZ, p * 4 + 1, none⟩ = some (.pointer none) ∧ wx.cell? ⟨gZ, p * 4 + 2, none⟩ = some (.int .i32 ti) ∧ wx.cell? ⟨gZ, p * 4 + 3, none⟩ = some (.int .i32 ki) ∧
              wx.cell? ⟨w3.heap.size, p, none⟩ = some (.int .u64 (rk : Nat)) ∧ wx.cell? ⟨w3.heap.size + 1, p, none⟩ = some (.int .i32 ti) ∧ wx.cell? ⟨w3.heap.size + 1 + 1, p, none⟩ = some (.int .i32 ki))
            (first | (exact hx) | (exact hxa _) | (exact hxb _ _) | (exact hxc _ _ _))
            ((first | (go_at_call 12; refine (rank_any _ _ _ _).mono ?_; rintro e w' ⟨rfl, rfl⟩) | (go_at_call 13; refine (tag_any _ _ _ _).mono ?_; rintro e w' ⟨rfl, rfl⟩) | (go_at_call 14; refine (kind_any _ _ _ _).mono ?_; rintro e w' ⟨rfl, rfl⟩)))
          clear hx hxa hxb hxc hneq1 hneq2 hneq3
          go_wp2
          go_roundw
          case rel => exact ⟨p + 1, by omega, by go_num, (HA.out _ _ _).drewN 1⟩
          case measure => simp [intOf]; omega
        · obtain rfl : p = q := by omega
          go_wp2_with fail
          refine (stable_any a0 p _ gZ cZ zs os _ h0 (R0.out.kept HP.out.bel) HP.out.x SO.out.2).mono ?_
          rintro e w9 ⟨rfl, l9⟩
          have L9 : Hid (Below w'.heap.size w' w9) := HP.out.bel.trans (l9.mono HP.out.bel.size)
          clear l9
          go_wp2
          go_ret
          exact ⟨rfl, L9⟩

theorem law4 (a0 a1 : Option Addr) (n0 c0 n1 c1 : Nat) (zs us : List (Nat × Int)) (w : World) (m0 : n0 ≤ 9223372036854775807) (m1 : n1 ≤ 9223372036854775807) (r0 : CRow w a0 n0 zs) (r1 : CRow w a1 n1 us) :
    Calls Try.prog 4 #[.slice a0 n0 c0, .slice a1 n1 c1] w fun e w' => e = .returned (.bool true) ∧ Below w.heap.size w w' := by
  by_cases h : 32768 < n0 ∨ 32768 < n1 ∨ 65536 < n0 + n1
  · exact law4_out a0 a1 n0 c0 n1 c1 w m0 m1 h
  · exact law4_in a0 a1 n0 c0 n1 c1 zs us w (by omega) (by omega) (by omega) r0 r1
end Go.Proofs.Qxb6600550a.Rad
