import Derived.Test.Qxb6600550aA3
namespace Go.Proofs.Qxb6600550a.Rad
open Go.RowKit

set_option maxRecDepth 100000 in
set_option maxHeartbeats 1600000 in
theorem sort_any (Z : Array Value) (hZ : ∀ w, (Instr.alloc 89 true (.tuple #[])).run Try.prog w = .ok (.pointer (some ⟨w.heap.size, 0, none⟩)) (w.alloc (.cells Z 89))) (hZt : ∀ w : World, Tab (w.alloc (.cells Z 89)) w.heap.size (fun _ _ => 0))
    (w0 : World) (B : Nat → Prop) (gA gB n cA mB lB cB : Nat) (xs bs : List Cd) (hn : n ≤ 32768) (hr : Rk xs) (ha : Buf w0 gA n xs) (hb : Buf w0 gB mB bs) (hm : (n ≤ cB ∧ mB = n) ∨ (cB < n ∧ mB = cB)) (hne : gA ≠ gB) (hA : Mod B w0 gA) (hB : Mod B w0 gB)
    (hcA : n ≤ cA) (hcA' : cA ≤ 9223372036854775807) (_hcB : lB ≤ cB) (hcB' : cB ≤ 9223372036854775807) :
    Calls Try.prog 35 #[.slice (some ⟨gA, 0, none⟩) n cA, .slice (some ⟨gB, 0, none⟩) lB cB] w0 fun e w' => ∃ gX cX gY cY zs, e = .returned (.tuple #[.slice (some ⟨gX, 0, none⟩) n cX, .slice (some ⟨gY, 0, none⟩) n cY]) ∧
      Buf w' gX n (rad xs 8) ∧ Buf w' gY n zs ∧ gX ≠ gY ∧ Mod B w0 gX ∧ Mod B w0 gY ∧ n ≤ cX ∧ cX ≤ 9223372036854775807 ∧ n ≤ cY ∧ cY ≤ 9223372036854775807 ∧ Kept B w0 w' := by
  have HR : Hid (Rk xs) := hr
  have HA : Hid (Buf w0 gA n xs) := ha
  have HB : Hid (Buf w0 gB mB bs) := hb
  have HM : Hid ((n ≤ cB ∧ mB = n) ∨ (cB < n ∧ mB = cB)) := hm
  have HT : Hid (∀ w : World, Tab (w.alloc (.cells Z 89)) w.heap.size (fun _ _ => 0)) := hZt
  have hal : gA < w0.heap.size := ha.lt
  clear hr ha hb hm hZt
  go_enter Try.func35, Try.ntmps35
  go_wp2_with fail
  refine (grow_any gB cB mB n bs w0 (by omega) (by omega) HB.out HM.out).mono ?_
  rintro e w1 ⟨g, c', bs', rfl, h1, h2, h3, h4, h5⟩
  have HS : Hid (St B w0 (w1.alloc (.cells Z 89)) gA g w1.heap.size n xs bs' (cntT xs 0 0)) := by
    have hsz := h5.size
    have hBl : Kept B w0 w1 := ⟨h5.os, h5.tape, h5.output, h5.size, fun k hk _ => h5.block k hk (by simp)⟩
    have a1 : Buf w1 gA n xs := HA.out.of_heap (h5.block gA hal (by simp))
    refine ⟨a1.of_heap (Below.heap_alloc _ _ _ a1.lt), h3.of_heap (Below.heap_alloc _ _ _ h3.lt), (HT.out w1).congr (fun b d _ _ => by simp [cntT, F]), hBl.alloc _, hA, ?_, fun h => by omega, ?_⟩
    · rcases h4 with rfl | rfl
      · exact hB
      · exact fun h => by omega
    · rcases h4 with rfl | rfl
      · exact hne
      · omega
  clear h3 h4 h5 HA HB HM HT hA hB hne _hcB hcB' hal
  go_wp2_with (with_reducible refine wpList_alloc_at Z hZ ?_)
  clear hZ
  obtain ⟨s, hs⟩ : ∃ s, s = w1.heap.size := ⟨_, rfl⟩
  obtain ⟨w2, hw2⟩ : ∃ w2, w2 = w1.alloc (.cells Z 89) := ⟨_, rfl⟩
  rw [← hs, ← hw2] at HS ⊢
  clear hs hw2
  go_loopw [27] (fun i wr => ∃ k : Nat, k ≤ n ∧ i = .int .i64 k ∧ Hid (St B w0 wr gA g s n xs bs' (cntT xs k 0))) (fun i _ => n - (intOf i).toNat)
  case atStart => exact ⟨0, Nat.zero_le _, rfl, HS⟩
  case round =>
    obtain ⟨k, hk, rfl, HI⟩ := hrel
    clear HS
    by_cases hlt : k < n
    · obtain ⟨c, hc⟩ : ∃ c, xs[k]? = some c := ⟨_, List.getElem?_eq_getElem (by rw [HI.out.a.len]; exact hlt)⟩
      obtain ⟨q0, q1, q2, q3⟩ := HI.out.a.cells hc
      obtain ⟨rk, ti, ki⟩ := c
      have HC : Hid (xs[k]? = some (rk, ti, ki)) := hc
      clear hc
      go_wp2_with fail
      have HS : Hid (St B w0 (wr.alloc (.cells #[.int .u64 (rk : Nat), .pointer none, .int .i32 ti, .int .i32 ki] 35)) gA g s n xs bs' (cntT xs k 0)) := HI.out.alloc _
      have hsl : s < wr.heap.size := HI.out.t.lt
      obtain ⟨bx, hbx⟩ : ∃ bx, bx = wr.heap.size := ⟨_, rfl⟩
      have hq : (wr.alloc (.cells #[.int .u64 (rk : Nat), .pointer none, .int .i32 ti, .int .i32 ki] 35)).cell? ⟨wr.heap.size, 0, none⟩ = some (.int .u64 (rk : Nat)) := by simp
      obtain ⟨w3, hw3⟩ : ∃ w3, w3 = wr.alloc (.cells #[.int .u64 (rk : Nat), .pointer none, .int .i32 ti, .int .i32 ki] 35) := ⟨_, rfl⟩
      rw [← hw3] at HS hq ⊢
      rw [← hbx] at hq hsl ⊢
      clear hw3 hbx HI q0 q1 q2 q3
      go_loopw [31] (fun i wx => ∃ b : Nat, b ≤ 8 ∧ i = .int .i64 b ∧ wx.cell? ⟨bx, 0, none⟩ = some (.int .u64 (rk : Nat)) ∧ Hid (St B w0 wx gA g s n xs bs' (cntT xs k b))) (fun i _ => 8 - (intOf i).toNat)
      case atStart => exact ⟨0, Nat.zero_le _, rfl, hq, HS⟩
      case round =>
        obtain ⟨b, hb, rfl, hbc, HJ⟩ := hrel
        clear HS hq
        by_cases hb8 : b < 8
        · obtain ⟨N, S, hx, hsh, hdn, hS0⟩ := digit_steps b (rk, ti, ki) (HR.out _ (List.mem_of_getElem? HC.out))
          have hd := dg_lt b (rk, ti, ki)
          obtain ⟨t, ht⟩ : ∃ t, t = cntT xs k b b (dg b (rk, ti, ki)) := ⟨_, rfl⟩
          have hst := cntT_step xs k b _ HC.out
          rw [← ht] at hst
          have htc : wr.cell? ⟨s, b * 256 + dg b (rk, ti, ki), none⟩ = some (.int .i64 (t : Nat)) := by rw [ht]; exact HJ.out.t.cell hb8 hd
          have htf : wr.frozen? ⟨s, b * 256 + dg b (rk, ti, ki), none⟩ = false := HJ.out.t.frozen _
          have htn : t ≤ 32768 := by have := cntT_le xs k b b (dg b (rk, ti, ki)); rw [HJ.out.a.len] at this; omega
          have hsb : s ≠ bx := by omega
          have HK := ((HJ.out.set (b := b) (d := dg b (rk, ti, ki)) (v := t + 1) hd).drew).congr (T' := cntT xs k (b + 1)) (fun b' d' _ _ => hst b' d')
          obtain ⟨D, hD⟩ : ∃ D, D = dg b (rk, ti, ki) := ⟨_, rfl⟩
          rw [← hD] at hdn htc htf HK
          have HK' : Hid (St B w0 (wr.setCell ⟨s, b * 256 + D, none⟩ (.int .i64 ((t : Int) + 1))).drew gA g s n xs bs' (cntT xs k (b + 1))) := HK
          clear ht hst HK hd hD
          go_wp2
          go_region
          all_goals (try go_wp2)
          all_goals go_roundw
          case rel => exact ⟨b + 1, by omega, by go_num, (World.cell?_of_block (heap_setCell_other _ _ _ _ (fun e => hsb e.symm))).trans hbc, HK'⟩
          case measure => simp [intOf]; omega
        · obtain rfl : b = 8 := by omega
          go_wp2
          go_roundw
          case rel => exact ⟨k + 1, by omega, by go_num, HJ.out.congr (fun b d hb _ => cntT_next xs k b d hb)⟩
          case measure => simp [intOf]; omega
    · obtain rfl : k = n := by omega
      have HP : Hid (P3 B w0 wr gA g s k xs 0 bs' (cntT xs k 0)) := ⟨HI.out, fun b' d _ _ _ => by simp [cntT, HI.out.a.len, List.take_of_length_le]⟩
      clear HI
      go_wp2_with fail
      go_loopw [0, 1, 50] (fun v0 v1 i wr => ∃ (b gX cX gY cY : Nat) (ys : List Cd) (T : Nat → Nat → Nat), b ≤ 8 ∧ i = .int .i64 b ∧ v0 = .slice (some ⟨gX, 0, none⟩) k cX ∧ v1 = .slice (some ⟨gY, 0, none⟩) k cY ∧
        k ≤ cX ∧ cX ≤ 9223372036854775807 ∧ k ≤ cY ∧ cY ≤ 9223372036854775807 ∧ Hid (P3 B w0 wr gX gY s k xs b ys T)) (fun _ _ i _ => 8 - (intOf i).toNat)
      case atStart => exact ⟨0, gA, cA, g, c', bs', _, Nat.zero_le _, rfl, rfl, rfl, hcA, hcA', h1, h2, HP⟩
      case round =>
        obtain ⟨b, gX, cX, gY, cY, ys, T, hb, rfl, rfl, rfl, e1, e2, e3, e4, HQ⟩ := hrel
        clear HP hcA hcA' h1 h2
        by_cases hb8 : b < 8
        · by_cases hk0 : k = 0
          · subst hk0
            have hd : (((0 : Nat) : Int) == 0) = true := rfl
            go_wp2
            go_quiet (fail)
            go_wp2
            go_roundw
            case rel => exact ⟨b + 1, gX, cX, gY, cY, ys, T, by omega, by go_num, rfl, rfl, e1, e2, e3, e4, (HQ.out.drewN _).skip (pass_same b _ 0 (by have := HQ.out.1.a.len; simp [List.eq_nil_of_length_eq_zero this, F]))⟩
            case measure => simp [intOf]; omega
          · have hlen : (rad xs b).length = k := HQ.out.1.a.len
            obtain ⟨c0, hc0⟩ : ∃ c, (rad xs b)[0]? = some c := ⟨_, List.getElem?_eq_getElem (by omega)⟩
            have hd : ((k : Int) == 0) = false := by simp; omega
            have hk1 : (0 : Int) < (k : Int) := by omega
            have q0 : wr.cell? ⟨gX, 0, none⟩ = some (.int .u64 (c0.1 : Nat)) := by simpa using (HQ.out.1.a.cells hc0).1
            obtain ⟨N, S, hx, hsh, hdn, hS0⟩ := digit_steps b c0 (HR.out c0 ((rad_perm xs b).mem_iff.1 (List.mem_of_getElem? hc0)))
            have hdl := dg_lt b c0
            have htc := HQ.out.1.t.cell hb8 hdl
            have htT := HQ.out.count hb8 hdl
            obtain ⟨D, hD⟩ : ∃ D, D = dg b c0 := ⟨_, rfl⟩
            rw [← hD] at hdn htc htT hdl
            obtain ⟨t, ht⟩ : ∃ t, t = T b D := ⟨_, rfl⟩
            rw [← ht] at htc htT
            obtain ⟨rk, ti, ki⟩ := c0
            have HT : Hid (t = (F b (rad xs b) D).length) := htT
            have HL : Hid ((rad xs b).length = k) := hlen
            clear hD ht hc0 htT hlen
            have htle : t ≤ k := by rw [HT.out, ← HL.out]; exact List.length_filter_le _ _
            go_wp2
            go_quiet (fail)
            clear hx hsh hdn hS0 htc q0 hdl hd hk1
            by_cases htk : t < k
            · obtain ⟨CS, hCl, hCr, hCv⟩ := HQ.out.1.t.row hb8
              clear HT
              have hCq : ∀ q, (wr.drewN q).rangeAt s (b * 256) CS := fun _ => hCr
              clear hCr
              go_wp2_with ((with_reducible refine wpList_load88 s (b * 256) CS (hCq _) hCl ?_ ?_); (· rfl))
              clear hCq
              have HU : Hid (St B w0 (wr.drewN nq) gX gY s k (rad xs b) ys (pfx T (rad xs b) b 0)) := (HQ.out.1.drewN nq).congr (fun b' d' _ _ => by simp [pfx])
              obtain ⟨cs, hcs⟩ : ∃ cs, cs = rad xs b := ⟨_, rfl⟩
              have HCnt : Hid (∀ d, d < 256 → T b d = (F b cs d).length) := fun d hd => by rw [hcs]; exact HQ.out.count hb8 hd
              have HNx : Hid (∀ b' d, b + 1 ≤ b' → b' < 8 → d < 256 → T b' d = (F b' xs d).length) := fun b' d h1 h2 h3 => HQ.out.2 b' d (by omega) h2 h3
              have HRk : Hid (∀ c ∈ cs, c.1 < 18446744073709551616) := fun c hc => HR.out c ((rad_perm xs b).mem_iff.1 (by rw [← hcs]; exact hc))
              rw [← hcs] at HU HL
              have HCS : Hid (cs = rad xs b) := hcs
              obtain ⟨wq, hwq⟩ : ∃ wq, wq = wr.drewN nq := ⟨_, rfl⟩
              rw [← hwq] at HU ⊢
              clear hwq hcs HQ htle htk
              go_loopw [11, 77] (fun nx i wx => ∃ d : Nat, d ≤ 256 ∧ i = .int .i64 d ∧ nx = .int .i64 (base b cs d : Nat) ∧ Hid (St B w0 wx gX gY s k cs ys (pfx T cs b d))) (fun _ i _ => 256 - (intOf i).toNat)
              case atStart => exact ⟨0, Nat.zero_le _, rfl, rfl, HU⟩
              case round =>
                obtain ⟨d, hd, rfl, rfl, HV⟩ := hrel
                clear HU
                by_cases hd6 : d < 256
                · obtain ⟨u, hu⟩ : ∃ u, u = T b d := ⟨_, rfl⟩
                  have hv := hCv d hd6
                  rw [← hu] at hv
                  have hix := index88 CS.toArray d (u : Int) hd6 hv
                  have hcl : wr.cell? ⟨s, b * 256 + d, none⟩ = some (.int .i64 (u : Nat)) := by
                    have := HV.out.t.cell hb8 hd6
                    rw [this, hu]; simp [pfx]
                  have hcf : wr.frozen? ⟨s, b * 256 + d, none⟩ = false := HV.out.t.frozen _
                  have hb1 : base b cs d ≤ 32768 := by have := base_le b cs d (by omega); rw [HL.out] at this; omega
                  have hb2 : base b cs d + u ≤ 32768 := by
                    have := base_le b cs (d + 1) (by omega)
                    rw [HL.out] at this
                    simp only [base] at this
                    rw [hu, HCnt.out d hd6]; omega
                  have HB2 : Hid (base b cs (d + 1) = base b cs d + u) := by show _ = _; rw [base, hu, HCnt.out d hd6]
                  have HW : Hid (St B w0 (wr.setCell ⟨s, b * 256 + d, none⟩ (.int .i64 (base b cs d : Nat))) gX gY s k cs ys (pfx T cs b (d + 1))) := (HV.out.set (b := b) (d := d) (v := base b cs d) hd6).congr (fun b' d' _ _ => pfx_step T cs b d b' d')
                  obtain ⟨y, hy⟩ : ∃ y, y = base b cs d := ⟨_, rfl⟩
                  rw [← hy] at hb1 hb2 HB2 HW ⊢
                  clear hu hv hy HV hCv
                  go_wp2
                  go_roundw
                  case rel => exact ⟨d + 1, by omega, by go_num, by rw [HB2.out]; go_num, HW⟩
                  case measure => simp [intOf]; omega
                · obtain rfl : d = 256 := by omega
                  have H5 : Hid (P5 B w0 wr gX gY s k cs T b 0) := ⟨ys, HV.out.congr (fun b' d' _ hd' => sct_start T cs b b' d' hd'), scat_start b cs ys (by rw [HV.out.b.len, HV.out.a.len])⟩
                  clear HV
                  go_wp2
                  go_loopw [92] (fun i wx => ∃ j : Nat, j ≤ k ∧ i = .int .i64 j ∧ Hid (P5 B w0 wx gX gY s k cs T b j)) (fun i _ => k - (intOf i).toNat)
                  case atStart => exact ⟨0, Nat.zero_le _, rfl, H5⟩
                  case round =>
                    obtain ⟨j, hj, rfl, HW⟩ := hrel
                    clear H5 hCv
                    by_cases hjk : j < k
                    · obtain ⟨rk, ti, ki, N, S, D, t, v0, v1, v2, v3, ⟨q0, q1, q2, q3⟩, ⟨hx, hsh, hdn, hS0⟩, ⟨htl, htc, htf⟩, ⟨p0, p1, p2, p3⟩, pf, ⟨n1, n2, n3, l1, l2, l3⟩, hst⟩ := HW.out.facts hb8 hjk HL.out HRk.out
                      have HST : Hid (∀ o q, P5 B w0 (((Rad.put (wr.alloc o) gY t (rk, ti, ki)).setCell ⟨s, b * 256 + D, none⟩ (.int .i64 ((t : Int) + 1))).drewN q) gX gY s k cs T b (j + 1)) := hst
                      clear hst HW
                      go_wp2
                      clear hx hsh hS0 q0 q1 q2 q3
                      have HST5 : Hid (∀ q, P5 B w0 (((Rad.put (wr.alloc (.cells #[.int .u64 (rk : Nat), .pointer none, .int .i32 ti, .int .i32 ki] 35)) gY t (rk, ti, ki)).setCell ⟨s, b * 256 + D, none⟩ (.int .i64 ((t : Int) + 1))).drewN q) gX gY s k cs T b (j + 1)) := fun q => HST.out _ q
                      obtain ⟨w5, bx, hw5, hbx, b0, b1, b2, b3, n4, n5, k5⟩ := box_facts wr s gY rk ti ki l2 l3
                      have htc5 := (k5 s _ l3).1.trans htc
                      have htf5 := (k5 s _ l3).2.trans htf
                      have p05 := (k5 gY _ l2).1.trans p0
                      have p15 := (k5 gY _ l2).1.trans p1
                      have p25 := (k5 gY _ l2).1.trans p2
                      have p35 := (k5 gY _ l2).1.trans p3
                      have pf5 : ∀ o, w5.frozen? ⟨gY, o, none⟩ = false := fun o => ((k5 gY o l2).2).trans (pf o)
                      rw [← hw5] at HST5 ⊢
                      rw [← hbx]
                      clear hw5 hbx k5 htc htf p0 p1 p2 p3 pf HST l1 l2 l3
                      go_region
                      all_goals go_wp2
                      all_goals go_region
                      all_goals (try go_wp2)
                      all_goals go_roundw
                      case rel => exact ⟨j + 1, by omega, by go_num, HST5.out 2⟩
                      case measure => simp [intOf]; omega
                    · obtain rfl : j = k := by omega
                      have HE : Hid (P3 B w0 wr gY gX s j xs (b + 1) cs (sct T cs b j)) := P5.done HW.out HL.out HCS.out HNx.out
                      clear HW
                      go_wp2
                      go_roundw
                      case rel => exact ⟨b + 1, gY, cY, gX, cX, cs, _, by omega, by go_num, rfl, rfl, e3, e4, e1, e2, HE⟩
                      case measure => simp [intOf]; omega
            · have hge : k ≤ t := by omega
              clear htk
              go_wp2
              go_roundw
              case rel => exact ⟨b + 1, gX, cX, gY, cY, ys, T, by omega, by go_num, rfl, rfl, e1, e2, e3, e4, (HQ.out.drewN _).skip (pass_same b _ D (by rw [← HT.out, HL.out]; omega))⟩
              case measure => simp [intOf]; omega
        · obtain rfl : b = 8 := by omega
          go_wp2
          go_ret2
          exact ⟨gX, cX, gY, cY, ys, rfl, HQ.out.1.a, HQ.out.1.b, HQ.out.1.ne, HQ.out.1.hA, HQ.out.1.hB, e1, e2, e3, e4, HQ.out.1.bel⟩
end Go.Proofs.Qxb6600550a.Rad
