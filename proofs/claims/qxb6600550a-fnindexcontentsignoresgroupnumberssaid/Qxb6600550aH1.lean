import Derived.Test.Qxb6600550aH0
namespace Go.Proofs.Qxb6600550a.Rad
open Go.RowKit Go.Proofs.Qxb6600550a.Idx

set_option maxRecDepth 100000 in
set_option maxHeartbeats 16000000 in
theorem law6 (a : Option Addr) (n cap : Nat) (sh : Int) (ts : List Ct) (w : World) (hm : n ≤ 9223372036854775807) (h : CtSl w a n ts) (hL : ∀ t ∈ ts, t.l ≤ 9223372036854775807) :
    Calls Try.prog 6 #[.slice a n cap, .int .i64 sh] w fun e w' => e = .returned (.bool true) ∧ Below w.heap.size w w' := by
  have HZ : Hid (Calls Try.prog 19 #[.slice a n cap, .int .i64 sh] w fun e w' => ∃ r, e = .returned (.bool r) ∧ w' = w) := zzb19_any a n cap sh ts w hm h hL
  have HC : Hid (CtSl w a n ts) := h
  have HL : Hid (∀ t ∈ ts, t.l ≤ 9223372036854775807) := hL
  clear h hL
  have hmm := @run_makeMap Try.prog
  go_enter Try.func6, Try.ntmps6
  go_wp2_with fail
  refine HZ.out.mono ?_
  rintro e w' ⟨r, rfl, rfl⟩
  clear HZ
  cases r with
  | false =>
    go_wp2
    go_ret
    exact ⟨rfl, Below.refl _ _⟩
  | true =>
    by_cases hn : 32768 < n
    · go_wp2
      go_ret
      exact ⟨rfl, Below.refl _ _⟩
    · go_wp2
      go_loopw [5, 6] (fun s i wr => ∃ q S : Nat, q ≤ n ∧ S ≤ 1048576 ∧ s = .int .i64 S ∧ i = .int .i64 q ∧ wr = w' ∧ Hid (∀ t ∈ ts.take q, t.l ≤ 65536)) (fun _ i _ => n - (intOf i).toNat)
      case atStart => exact ⟨0, 0, Nat.zero_le _, by omega, rfl, rfl, rfl, by intro t ht; simp at ht⟩
      case round =>
        obtain ⟨q, S, hq, hS, rfl, rfl, rfl, HT⟩ := hrel
        by_cases hlt : q < n
        · obtain ⟨G, off, rfl, hr⟩ := HC.out.2 (by omega)
          obtain ⟨t, ht⟩ : ∃ t, ts[q]? = some t := ⟨_, List.getElem?_eq_getElem (by rw [hr.len]; exact hlt)⟩
          have h1 := (hr.cell q t ht).2.1
          have h2 := HL.out t (List.mem_of_getElem? ht)
          have HTn : Hid (t.l ≤ 65536 → ∀ u ∈ ts.take (q + 1), u.l ≤ 65536) := fun hl u hu => by
            have hjl : q < ts.length := (List.getElem?_eq_some_iff.1 ht).1
            have hge : ts[q] = t := by rw [List.getElem?_eq_getElem hjl] at ht; exact Option.some.inj ht
            rw [List.take_succ_eq_append_getElem hjl, hge] at hu
            rcases List.mem_append.1 hu with hu | hu
            · exact HT.out u hu
            · simp at hu; subst hu; exact hl
          clear hr
          by_cases hbig : 65536 < t.l
          · go_wp2
            go_ret
            exact ⟨rfl, Below.refl _ _⟩
          · by_cases hsum : 1048576 < S + (40 + 16 * t.l)
            · go_wp2
              go_ret
              exact ⟨rfl, Below.refl _ _⟩
            · go_wp2
              go_roundw
              case rel => exact ⟨q + 1, S + (40 + 16 * t.l), by omega, by omega, by go_num, by go_num, by trivial, HTn.out (by omega)⟩
              case measure => simp [intOf]; omega
        · obtain rfl : n = q := by omega
          have HL2 : Hid (∀ t ∈ ts, t.l ≤ 65536) := fun t ht => HT.out t (by rw [List.take_of_length_le (by rw [HC.out.1]; exact Nat.le_refl _)]; exact ht)
          clear HT hlt hq
          obtain ⟨w0, rfl⟩ : ∃ w0, w0 = wr := ⟨_, rfl⟩
          by_cases hs : sh < 1 ∨ 32768 < sh
          · by_cases hs1 : sh < 1
            · go_wp2
              go_ret
              exact ⟨rfl, Below.refl _ _⟩
            · go_wp2
              go_ret
              exact ⟨rfl, Below.refl _ _⟩
          · have hs1 : 1 ≤ sh := by omega
            have hs2 : sh ≤ 32768 := by omega
            clear hs
            go_wp2
            go_loopw [7] (fun i wr => ∃ q : Nat, q ≤ n ∧ i = .int .i64 q ∧ wr = w0 ∧ Hid (∀ t ∈ ts.take q, 0 ≤ t.g ∧ t.g ≤ 32768)) (fun i _ => n - (intOf i).toNat)
            case atStart => exact ⟨0, Nat.zero_le _, rfl, rfl, by intro t ht; simp at ht⟩
            case round =>
              obtain ⟨q, hq, rfl, rfl, HT⟩ := hrel
              by_cases hlt : q < n
              · obtain ⟨G, off, rfl, hr⟩ := HC.out.2 (by omega)
                obtain ⟨t, ht⟩ : ∃ t, ts[q]? = some t := ⟨_, List.getElem?_eq_getElem (by rw [hr.len]; exact hlt)⟩
                have h1 := (hr.cell q t ht).1
                have HTn : Hid (0 ≤ t.g ∧ t.g ≤ 32768 → ∀ u ∈ ts.take (q + 1), 0 ≤ u.g ∧ u.g ≤ 32768) := fun hl u hu => by
                  have hjl : q < ts.length := (List.getElem?_eq_some_iff.1 ht).1
                  have hge : ts[q] = t := by rw [List.getElem?_eq_getElem hjl] at ht; exact Option.some.inj ht
                  rw [List.take_succ_eq_append_getElem hjl, hge] at hu
                  rcases List.mem_append.1 hu with hu | hu
                  · exact HT.out u hu
                  · simp at hu; subst hu; exact hl
                clear hr
                by_cases hb1 : t.g < 0
                · go_wp2
                  go_ret
                  exact ⟨rfl, Below.refl _ _⟩
                · by_cases hb2 : 32768 < t.g
                  · go_wp2
                    go_ret
                    exact ⟨rfl, Below.refl _ _⟩
                  · go_wp2
                    go_roundw
                    case rel => exact ⟨q + 1, by omega, by go_num, by trivial, HTn.out ⟨by omega, by omega⟩⟩
                    case measure => simp [intOf]; omega
              · obtain rfl : n = q := by omega
                have HG : Hid (∀ t ∈ ts, 0 ≤ t.g ∧ t.g ≤ 32768) := fun t ht => HT.out t (by rw [List.take_of_length_le (by rw [HC.out.1]; exact Nat.le_refl _)]; exact ht)
                clear HT hlt hq
                obtain ⟨w0, rfl⟩ : ∃ w0, w0 = wr := ⟨_, rfl⟩
                have H17 := toCt_any a n cap 0 ts w0 (by omega) HC.out HL2.out (fun t ht => ⟨(HG.out t ht).1, by have := (HG.out t ht).2; omega⟩) ⟨by omega, by omega⟩
                have HH17 : Hid (Calls Try.prog 17 #[.slice a n cap, .int .i64 0] w0 fun e w' => ∃ us, e = .returned (.slice (some ⟨w0.heap.size, 0, none⟩) n n) ∧ CtRow w' w0.heap.size 0 n us ∧ (∀ (j : Nat) t u, ts[j]? = some t → us[j]? = some u → Made 0 t u) ∧ Below w0.heap.size w0 w') := H17
                clear H17
                go_wp2_with fail
                refine HH17.out.mono ?_
                rintro e w1 ⟨us1, rfl, r1, m1, b1⟩
                clear HH17
                have hu1 : ∀ u ∈ us1, u.l ≤ 65536 ∧ 0 ≤ u.g ∧ u.g ≤ 98304 := fun u hu => by
                  obtain ⟨j, hj⟩ := List.mem_iff_getElem?.1 hu
                  have hjl := (List.getElem?_eq_some_iff.1 hj).1
                  have hlt : j < ts.length := by rw [HC.out.1, ← r1.len]; exact hjl
                  have hm := m1 j _ u (List.getElem?_eq_getElem hlt) hj
                  have h1 := HG.out _ (List.getElem_mem hlt)
                  have h2 := HL2.out _ (List.getElem_mem hlt)
                  refine ⟨by rw [hm.l]; exact h2, ?_⟩
                  rw [hm.g]
                  by_cases h0 : (ts[j]).g = 0
                  · rw [if_pos h0]; omega
                  · rw [if_neg h0]; omega
                have HH16 : Hid (Calls Try.prog 16 #[.slice (some ⟨w0.heap.size, 0, none⟩) n n] w1 fun e w' => ∃ b : Nat, e = .returned (.pointer (some ⟨b, 0, none⟩)) ∧ IndexAt w1 w' b us1) := zzindex_any w0.heap.size n us1 w1 (by omega) r1 (fun u hu => (hu1 u hu).1) (fun u hu => (hu1 u hu).2)
                have R1 : Hid (CtRow w1 w0.heap.size 0 n us1) := r1
                have MM1 : Hid (∀ (j : Nat) t u, ts[j]? = some t → us1[j]? = some u → Made 0 t u) := m1
                have BB1 : Hid (Below w0.heap.size w0 w1) := b1
                have HU1 : Hid (∀ u ∈ us1, u.l ≤ 65536 ∧ 0 ≤ u.g ∧ u.g ≤ 98304) := hu1
                clear r1 m1 b1 hu1
                go_wp2_with fail
                refine HH16.out.mono ?_
                rintro e w2 ⟨x1, rfl, ix1⟩
                clear HH16
                have IX1 : Hid (IndexAt w1 w2 x1 us1) := ix1
                have BB2 : Hid (Below w0.heap.size w0 w2) := BB1.out.trans (ix1.bel.mono BB1.out.size)
                have R2 : Hid (CtRow w2 w0.heap.size 0 n us1) := R1.out.kept ix1.bel
                clear ix1 R1 BB1
                have H17 := toCt_any a n cap sh ts w2 (by omega) (HC.out.kept BB2.out) HL2.out (fun t ht => ⟨(HG.out t ht).1, by have := (HG.out t ht).2; omega⟩) ⟨by omega, by omega⟩
                have HH17 : Hid (Calls Try.prog 17 #[.slice a n cap, .int .i64 sh] w2 fun e w' => ∃ us, e = .returned (.slice (some ⟨w2.heap.size, 0, none⟩) n n) ∧ CtRow w' w2.heap.size 0 n us ∧ (∀ (j : Nat) t u, ts[j]? = some t → us[j]? = some u → Made sh t u) ∧ Below w2.heap.size w2 w') := H17
                clear H17
                go_wp2_with fail
                refine HH17.out.mono ?_
                rintro e w3 ⟨us2, rfl, r1, m1, b1⟩
                clear HH17
                have hu2 : ∀ u ∈ us2, u.l ≤ 65536 ∧ 0 ≤ u.g ∧ u.g ≤ 98304 := fun u hu => by
                  obtain ⟨j, hj⟩ := List.mem_iff_getElem?.1 hu
                  have hjl := (List.getElem?_eq_some_iff.1 hj).1
                  have hlt : j < ts.length := by rw [HC.out.1, ← r1.len]; exact hjl
                  have hm := m1 j _ u (List.getElem?_eq_getElem hlt) hj
                  have h1 := HG.out _ (List.getElem_mem hlt)
                  have h2 := HL2.out _ (List.getElem_mem hlt)
                  refine ⟨by rw [hm.l]; exact h2, ?_⟩
                  rw [hm.g]
                  by_cases h0 : (ts[j]).g = 0
                  · rw [if_pos h0]; omega
                  · rw [if_neg h0]; omega
                have HH16 : Hid (Calls Try.prog 16 #[.slice (some ⟨w2.heap.size, 0, none⟩) n n] w3 fun e w' => ∃ b : Nat, e = .returned (.pointer (some ⟨b, 0, none⟩)) ∧ IndexAt w3 w' b us2) := zzindex_any w2.heap.size n us2 w3 (by omega) r1 (fun u hu => (hu2 u hu).1) (fun u hu => (hu2 u hu).2)
                have R3 : Hid (CtRow w3 w2.heap.size 0 n us2) := r1
                have MM2 : Hid (∀ (j : Nat) t u, ts[j]? = some t → us2[j]? = some u → Made sh t u) := m1
                have BB3 : Hid (Below w2.heap.size w2 w3) := b1
                clear r1 m1 b1 hu2
                go_wp2_with fail
                refine HH16.out.mono ?_
                rintro e w4 ⟨x2, rfl, ix2⟩
                clear HH16
                have b24 : Below w2.heap.size w2 w4 := BB3.out.trans (ix2.bel.mono BB3.out.size)
                obtain ⟨p1, p2, p3⟩ := both_plain sh hs1 ts us1 us2 (by rw [R2.out.len, HC.out.1]) (by rw [R3.out.len, HC.out.1]) HG.out MM1.out MM2.out
                have HBo : Hid (Both w4 x1 x2 sh us1 us2) := ⟨⟨w1, IX1.out.below b24⟩, ⟨w3, ix2⟩, p1, p2, fun t ht => by
                  obtain ⟨j, hj⟩ := List.mem_iff_getElem?.1 ht
                  exact (R2.out.chs j t hj).kept b24, fun t ht => by
                  obtain ⟨j, hj⟩ := List.mem_iff_getElem?.1 ht
                  exact (R3.out.chs j t hj).kept ix2.bel, p3, fun t ht => (HU1.out t ht).1, by rw [R2.out.len]; omega⟩
                have HBel : Hid (Below w0.heap.size w0 w4) := BB2.out.trans (b24.mono BB2.out.size)
                clear ix2 b24 p1 p2 p3 IX1 BB2 BB3 R2 R3 MM1 MM2 HU1 HG HL2 HL HC
                obtain ⟨wa, J1⟩ := HBo.out.i1
                obtain ⟨wb, J2⟩ := HBo.out.i2
                have hsim := HBo.out.sim
                obtain ⟨K, hK⟩ : ∃ K, K = (ixOf us1).kinds.length := ⟨_, rfl⟩
                have C1 := J1.kindCount
                have C2 := J2.kindCount
                rw [hsim.len] at C2
                rw [← hK] at C1 C2
                have HC1 : Hid (Calls Try.prog 20 #[.pointer (some ⟨x1, 0, none⟩)] w4 fun e w' => e = .returned (.int .i64 (K : Nat)) ∧ w' = w4) := C1
                have HC2 : Hid (Calls Try.prog 20 #[.pointer (some ⟨x2, 0, none⟩)] w4 fun e w' => e = .returned (.int .i64 (K : Nat)) ∧ w' = w4) := C2
                obtain ⟨gm1, M, hM1, V1, C3⟩ := J1.members
                obtain ⟨gm2, M', hM2, V2, C4⟩ := J2.members
                rw [hsim.count, hM1] at hM2
                obtain rfl : M = M' := by omega
                rw [HBo.out.mem] at V2
                have hMn : M ≤ 32768 := by
                  have h1 := (first_rng us1 _ (Nat.le_refl _)).2
                  have h2 := HBo.out.n1
                  rw [hM1] at h1
                  omega
                have HC3 : Hid (Calls Try.prog 22 #[.pointer (some ⟨x1, 0, none⟩)] w4 fun e w' => e = .returned (.slice (some ⟨gm1, 0, none⟩) M M) ∧ w' = w4) := C3
                have HC4 : Hid (Calls Try.prog 22 #[.pointer (some ⟨x2, 0, none⟩)] w4 fun e w' => e = .returned (.slice (some ⟨gm2, 0, none⟩) M M) ∧ w' = w4) := C4
                have HC5 : Hid (Calls Try.prog 21 #[.slice (some ⟨gm1, 0, none⟩) M M, .slice (some ⟨gm2, 0, none⟩) M M] w4 fun e w' => e = .returned (.bool true) ∧ ∃ j, w' = w4.drewN j) := same32_any gm1 gm2 M M M _ w4 (by omega) (fun i hi => (V1.cell hi).1) (fun i hi => (V2.cell hi).1)
                have HK : Hid (K = (ixOf us1).kinds.length) := hK
                have hKK : ((K : Int) != (K : Int)) = false := by simp
                clear J1 J2 hsim C1 C2 C3 C4 V1 V2 hM1 hM2 hK hMn
                go_wp2_with fail
                refine HC1.out.mono ?_
                rintro e w' ⟨rfl, hw⟩
                obtain rfl := hw.symm
                go_wp2_with fail
                refine HC2.out.mono ?_
                rintro e w' ⟨rfl, hw⟩
                obtain rfl := hw.symm
                go_wp2_with fail
                refine HC3.out.mono ?_
                rintro e w' ⟨rfl, hw⟩
                obtain rfl := hw.symm
                go_wp2_with fail
                refine HC4.out.mono ?_
                rintro e w' ⟨rfl, hw⟩
                obtain rfl := hw.symm
                go_wp2_with fail
                refine HC5.out.mono ?_
                rintro e w5 ⟨rfl, dj, hw⟩
                have b45 : Below w4.heap.size w4 w5 := by rw [hw]; exact ⟨rfl, rfl, rfl, Nat.le_refl _, fun _ _ => rfl⟩
                have HBo5 : Hid (Both w5 x1 x2 sh us1 us2) := HBo.out.below b45
                have HBel5 : Hid (Below w0.heap.size w0 w5) := HBel.out.trans (b45.mono HBel.out.size)
                clear HBo HBel hw b45 HC1 HC2 HC3 HC4 HC5
                obtain ⟨wa, J1⟩ := HBo5.out.i1
                obtain ⟨wb, J2⟩ := HBo5.out.i2
                have hsim := HBo5.out.sim
                obtain ⟨gf1, V1, C1⟩ := J1.firsts
                obtain ⟨gf2, V2, C2⟩ := J2.firsts
                rw [hsim.count] at C2 V2
                have hcl : (ixOf us1).count.length = K := by rw [HK.out]; exact (ok_ixOf us1).len
                rw [hcl] at V1 V2 C1 C2
                have hKn : K ≤ 32768 := by
                  have h1 := (ok_ixOf us1).le
                  have h2 := HBo5.out.n1
                  rw [HK.out]; omega
                have HC1 : Hid (Calls Try.prog 23 #[.pointer (some ⟨x1, 0, none⟩)] w5 fun e w' => e = .returned (.slice (some ⟨gf1, 0, none⟩) (K + 1) (K + 1)) ∧ w' = w5) := C1
                have HC2 : Hid (Calls Try.prog 23 #[.pointer (some ⟨x2, 0, none⟩)] w5 fun e w' => e = .returned (.slice (some ⟨gf2, 0, none⟩) (K + 1) (K + 1)) ∧ w' = w5) := C2
                have HC3 : Hid (Calls Try.prog 21 #[.slice (some ⟨gf1, 0, none⟩) (K + 1) (K + 1), .slice (some ⟨gf2, 0, none⟩) (K + 1) (K + 1)] w5 fun e w' => e = .returned (.bool true) ∧ ∃ j, w' = w5.drewN j) := same32_any gf1 gf2 (K + 1) (K + 1) (K + 1) _ w5 (by omega) (fun i hi => (V1.cell hi).1) (fun i hi => (V2.cell hi).1)
                clear J1 J2 hsim C1 C2 V1 V2 hcl
                go_wp2_with fail
                refine HC1.out.mono ?_
                rintro e w' ⟨rfl, hw⟩
                obtain rfl := hw.symm
                go_wp2_with fail
                refine HC2.out.mono ?_
                rintro e w' ⟨rfl, hw⟩
                obtain rfl := hw.symm
                go_wp2_with fail
                refine HC3.out.mono ?_
                rintro e w6 ⟨rfl, dj, hw⟩
                have b56 : Below w5.heap.size w5 w6 := by rw [hw]; exact ⟨rfl, rfl, rfl, Nat.le_refl _, fun _ _ => rfl⟩
                have HBo : Hid (Both w6 x1 x2 sh us1 us2) := HBo5.out.below b56
                have HBel : Hid (Below w0.heap.size w0 w6) := HBel5.out.trans (b56.mono HBel5.out.size)
                clear HBo5 HBel5 hw b56 HC1 HC2 HC3
                obtain ⟨wa, J1⟩ := HBo.out.i1
                obtain ⟨wb, J2⟩ := HBo.out.i2
                have hsim := HBo.out.sim
                have C1 := J1.runes
                have C2 := J2.runes
                have C3 := J1.lessCount
                have C4 := J2.lessCount
                rw [hsim.hd] at C2
                rw [hsim.nless] at C4
                obtain ⟨hn1, e1⟩ : ∃ x, x = (ixOf us1).hd.n := ⟨_, rfl⟩
                obtain ⟨ln1, e2⟩ : ∃ x, x = (ixOf us1).nless := ⟨_, rfl⟩
                rw [← e1] at C1 C2
                rw [← e2] at C3 C4
                have HC1 : Hid (Calls Try.prog 24 #[.pointer (some ⟨x1, 0, none⟩)] w6 fun e w' => e = .returned (.int .i64 (hn1 : Nat)) ∧ w' = w6) := C1
                have HC2 : Hid (Calls Try.prog 24 #[.pointer (some ⟨x2, 0, none⟩)] w6 fun e w' => e = .returned (.int .i64 (hn1 : Nat)) ∧ w' = w6) := C2
                have HC3 : Hid (Calls Try.prog 25 #[.pointer (some ⟨x1, 0, none⟩)] w6 fun e w' => e = .returned (.int .i64 (ln1 : Nat)) ∧ w' = w6) := C3
                have HC4 : Hid (Calls Try.prog 25 #[.pointer (some ⟨x2, 0, none⟩)] w6 fun e w' => e = .returned (.int .i64 (ln1 : Nat)) ∧ w' = w6) := C4
                have hne1 : ((hn1 : Int) != (hn1 : Int)) = false := by simp
                have hne2 : ((ln1 : Int) != (ln1 : Int)) = false := by simp
                clear J1 J2 hsim C1 C2 C3 C4 e1 e2
                go_wp2_with fail
                refine HC1.out.mono ?_
                rintro e w' ⟨rfl, hw⟩
                obtain rfl := hw.symm
                go_wp2_with fail
                refine HC2.out.mono ?_
                rintro e w' ⟨rfl, hw⟩
                obtain rfl := hw.symm
                go_wp2_with fail
                refine HC3.out.mono ?_
                rintro e w' ⟨rfl, hw⟩
                obtain rfl := hw.symm
                go_wp2_with fail
                refine HC4.out.mono ?_
                rintro e w' ⟨rfl, hw⟩
                obtain rfl := hw.symm
                clear HC1 HC2 HC3 HC4
                have HCM0 : Hid (Cmp w6 (w6.alloc (.map #[] 0)) w6.heap.size) := ⟨(Below.refl _ _).alloc (Nat.le_refl _) _, Nat.le_refl _, _, _, IMap.made w6 .i32, fun a v hv => by cases hv⟩
                go_wp2
                go_loopw [12] (fun i wr => ∃ k : Nat, k ≤ K ∧ i = .int .i64 k ∧ Hid (Cmp w6 wr w6.heap.size)) (fun i _ => K - (intOf i).toNat)
                case atStart => exact ⟨0, Nat.zero_le _, rfl, HCM0⟩
                case round =>
                  obtain ⟨k, hk, rfl, HCM⟩ := hrel
                  clear HCM0
                  by_cases hkl : k < K
                  · obtain ⟨wk, rfl⟩ : ∃ wk, wk = wr := ⟨_, rfl⟩
                    obtain ⟨t1, ht1⟩ : ∃ t, (ixOf us1).kinds[k]? = some t := ⟨_, List.getElem?_eq_getElem (by rw [← HK.out]; exact hkl)⟩
                    have hbo := HBo.out.below HCM.out.bel
                    obtain ⟨t2, ht2, eg, ec, ew⟩ := hbo.sim.kinds k t1 ht1
                    obtain ⟨wa, J1⟩ := hbo.i1
                    obtain ⟨wb, J2⟩ := hbo.i2
                    have hm1 := kinds_mem us1 t1 (List.mem_of_getElem? ht1)
                    have hm2 := kinds_mem us2 t2 (List.mem_of_getElem? ht2)
                    have hl12 : t2.l = t1.l := by rw [← (hbo.c2 t2 hm2).1, ← (hbo.c1 t1 hm1).1, ec]
                    obtain ⟨hgz, hgu⟩ := hbo.g1 t1 hm1
                    have htl := hbo.l1 t1 hm1
                    have hgn := ((ok_ixOf us1).kind k t1 ht1).1
                    have C1 := J1.group ht1
                    have C2 := J2.group ht2
                    have C3 := J1.weight ht1
                    have C4 := J2.weight ht2
                    have C5 := J1.letterless t1.g
                    have C6 := J2.letterless (t1.g + sh)
                    have C7 := J1.charsLen ht1
                    have C8 := J2.charsLen ht2
                    rw [eg] at C2
                    rw [ew] at C4
                    rw [hbo.sim.less t1.g (by omega)] at C6
                    rw [hl12] at C8
                    obtain ⟨lk, e1⟩ : ∃ x, x = ((ixOf us1).less t1.g).getD 0 := ⟨_, rfl⟩
                    obtain ⟨ok, e2⟩ : ∃ x, x = ((ixOf us1).less t1.g).isSome := ⟨_, rfl⟩
                    rw [← e1, ← e2] at C5 C6
                    have HC1 : Hid (Calls Try.prog 26 #[.pointer (some ⟨x1, 0, none⟩), .int .i64 (k : Nat)] wk fun e w' => e = .returned (.int .i64 t1.g) ∧ w' = wk) := C1
                    have HC2 : Hid (Calls Try.prog 26 #[.pointer (some ⟨x2, 0, none⟩), .int .i64 (k : Nat)] wk fun e w' => e = .returned (.int .i64 (t1.g + sh)) ∧ w' = wk) := C2
                    have HC3 : Hid (Calls Try.prog 28 #[.pointer (some ⟨x1, 0, none⟩), .int .i64 (k : Nat)] wk fun e w' => e = .returned (.float .f64 t1.wt) ∧ w' = wk) := C3
                    have HC4 : Hid (Calls Try.prog 28 #[.pointer (some ⟨x2, 0, none⟩), .int .i64 (k : Nat)] wk fun e w' => e = .returned (.float .f64 t1.wt) ∧ w' = wk) := C4
                    have HC4b : Hid (Calls Try.prog 27 #[.float .f64 t1.wt, .float .f64 t1.wt] wk fun e w' => e = .returned (.bool true) ∧ w' = wk) := sameFloat_self t1.wt wk
                    have HC5 : Hid (Calls Try.prog 29 #[.pointer (some ⟨x1, 0, none⟩), .int .i64 t1.g] wk fun e w' => e = .returned (.tuple #[.int .i32 lk, .bool ok]) ∧ w' = wk) := C5
                    have HC6 : Hid (Calls Try.prog 29 #[.pointer (some ⟨x2, 0, none⟩), .int .i64 (t1.g + sh)] wk fun e w' => e = .returned (.tuple #[.int .i32 lk, .bool ok]) ∧ w' = wk) := C6
                    have HC7 : Hid (Calls Try.prog 30 #[.pointer (some ⟨x1, 0, none⟩), .int .i64 (k : Nat)] wk fun e w' => e = .returned (.int .i64 (t1.l : Nat)) ∧ w' = wk) := C7
                    have HC8 : Hid (Calls Try.prog 30 #[.pointer (some ⟨x2, 0, none⟩), .int .i64 (k : Nat)] wk fun e w' => e = .returned (.int .i64 (t1.l : Nat)) ∧ w' = wk) := C8
                    have hx1 : (t1.g + sh != t1.g + sh) = false := by simp
                    have hx2 : (ok == ok) = true := by simp
                    have hx3 : (lk != lk) = false := by simp
                    have hx4 : ((t1.l : Int) != (t1.l : Int)) = false := by simp
                    have HT1 : Hid ((ixOf us1).kinds[k]? = some t1 ∧ t1 ∈ us1) := ⟨ht1, hm1⟩
                    have HT2 : Hid ((ixOf us2).kinds[k]? = some t2 ∧ t2 ∈ us2 ∧ t2.chs = t1.chs) := ⟨ht2, hm2, ec⟩
                    have HCl : Hid (t1.chs.length = t1.l) := (hbo.c1 t1 hm1).1
                    clear hbo J1 J2 hm1 hm2 C1 C2 C3 C4 C5 C6 C7 C8 e1 e2 eg ec ew ht1 ht2 hl12 hgn
                    go_wp2_with fail
                    refine HC1.out.mono ?_
                    rintro e w' ⟨rfl, hw⟩
                    obtain rfl := hw.symm
                    go_wp2_with fail
                    refine HC2.out.mono ?_
                    rintro e w' ⟨rfl, hw⟩
                    obtain rfl := hw.symm
                    go_wp2_with fail
                    refine HC3.out.mono ?_
                    rintro e w' ⟨rfl, hw⟩
                    obtain rfl := hw.symm
                    go_wp2_with fail
                    refine HC4.out.mono ?_
                    rintro e w' ⟨rfl, hw⟩
                    obtain rfl := hw.symm
                    go_wp2_with fail
                    refine HC4b.out.mono ?_
                    rintro e w' ⟨rfl, hw⟩
                    obtain rfl := hw.symm
                    go_wp2_with fail
                    refine HC5.out.mono ?_
                    rintro e w' ⟨rfl, hw⟩
                    obtain rfl := hw.symm
                    go_wp2_with fail
                    refine HC6.out.mono ?_
                    rintro e w' ⟨rfl, hw⟩
                    obtain rfl := hw.symm
                    go_wp2_with fail
                    refine HC7.out.mono ?_
                    rintro e w' ⟨rfl, hw⟩
                    obtain rfl := hw.symm
                    go_wp2_with fail
                    refine HC8.out.mono ?_
                    rintro e w' ⟨rfl, hw⟩
                    obtain rfl := hw.symm
                    clear HC1 HC2 HC3 HC4 HC4b HC5 HC6 HC7 HC8 hx1 hx2 hx3 hx4
                    go_wp2
                    go_loopw [19] (fun i wr => ∃ q : Nat, q ≤ t1.l ∧ i = .int .i64 q ∧ Hid (Cmp w6 wr w6.heap.size)) (fun i _ => t1.l - (intOf i).toNat)
                    case atStart => exact ⟨0, Nat.zero_le _, rfl, HCM⟩
                    case round =>
                      obtain ⟨q, hq, rfl, HCM2⟩ := hrel
                      by_cases hql : q < t1.l
                      · obtain ⟨wq, rfl⟩ : ∃ wq, wq = wr := ⟨_, rfl⟩
                        obtain ⟨⟨r, p, x⟩, hch⟩ : ∃ ch, t1.chs[q]? = some ch := ⟨_, List.getElem?_eq_getElem (by rw [HCl.out]; exact hql)⟩
                        have HCh : Hid (t1.chs[q]? = some (r, p, x) ∧ t2.chs[q]? = some (r, p, x)) := ⟨hch, by rw [HT2.out.2.2]; exact hch⟩
                        have hbo := HBo.out.below HCM2.out.bel
                        obtain ⟨wa, J1⟩ := hbo.i1
                        have HC1 : Hid (Calls Try.prog 31 #[.pointer (some ⟨x1, 0, none⟩), .int .i64 (k : Nat), .int .i64 (q : Nat)] wq fun e w' => e = .returned (.tuple #[.int .i32 r, .int .i32 p, .float .f64 x]) ∧ ∃ o, w' = (wq.alloc o).drew) := J1.char HT1.out.1 (hbo.c1 t1 HT1.out.2) HCh.out.1
                        clear hbo J1 hch
                        go_wp2_with fail
                        refine HC1.out.mono ?_
                        rintro e w7 ⟨rfl, o, hw⟩
                        have HCM7 : Hid (Cmp w6 w7 w6.heap.size) := by rw [hw]; exact HCM2.out.alloc o 1
                        clear hw HC1 HCM2
                        have hbo := HBo.out.below HCM7.out.bel
                        obtain ⟨wb, J2⟩ := hbo.i2
                        have HC1 : Hid (Calls Try.prog 31 #[.pointer (some ⟨x2, 0, none⟩), .int .i64 (k : Nat), .int .i64 (q : Nat)] w7 fun e w' => e = .returned (.tuple #[.int .i32 r, .int .i32 p, .float .f64 x]) ∧ ∃ o, w' = (w7.alloc o).drew) := J2.char HT2.out.1 (hbo.c2 t2 HT2.out.2.1) HCh.out.2
                        clear hbo J2
                        go_wp2_with fail
                        refine HC1.out.mono ?_
                        rintro e w8 ⟨rfl, o, hw⟩
                        have HCM8 : Hid (Cmp w6 w8 w6.heap.size) := by rw [hw]; exact HCM7.out.alloc o 1
                        clear hw HC1 HCM7
                        have hx1 : (r != r) = false := by simp
                        have hx2 : (p != p) = false := by simp
                        have HC1 : Hid (Calls Try.prog 27 #[.float .f64 x, .float .f64 x] w8 fun e w' => e = .returned (.bool true) ∧ w' = w8) := sameFloat_self x w8
                        go_wp2_with fail
                        refine HC1.out.mono ?_
                        rintro e w' ⟨rfl, hw⟩
                        obtain rfl := hw.symm
                        clear HC1
                        obtain ⟨bb, hlk⟩ := HCM8.out.look r
                        cases bb with
                        | true =>
                          go_wp2
                          go_roundw
                          case rel => exact ⟨q + 1, by omega, by go_num, HCM8⟩
                          case measure => simp [intOf]; omega
                        | false =>
                          obtain ⟨w9, hmu, cm9⟩ := HCM8.out.store r
                          have HCM9 : Hid (Cmp w6 w9 w6.heap.size) := cm9
                          have hbo := HBo.out.below cm9.bel
                          obtain ⟨wa, J1⟩ := hbo.i1
                          obtain ⟨wb, J2⟩ := hbo.i2
                          have C1 := J1.hlen r
                          have C2 := J2.hlen r
                          rw [hbo.sim.hd] at C2
                          obtain ⟨hh, ehh⟩ : ∃ hh, hh = (ixOf us1).hd.h r := ⟨_, rfl⟩
                          rw [← ehh] at C1 C2
                          have HHH : Hid (hh = (ixOf us1).hd.h r ∧ hh = (ixOf us2).hd.h r) := ⟨ehh, by rw [hbo.sim.hd]; exact ehh⟩
                          have hhl : hh.length ≤ 2147483648 := by
                            have h1 := ix_len us1 r (fun t ht => by rw [(hbo.c1 t ht).1]; exact hbo.l1 t ht)
                            have h2 := hbo.n1
                            rw [← ehh] at h1
                            omega
                          have HC1 : Hid (Calls Try.prog 32 #[.pointer (some ⟨x1, 0, none⟩), .int .i32 r] w9 fun e w' => e = .returned (.int .i64 (hh.length : Nat)) ∧ w' = w9) := C1
                          have HC2 : Hid (Calls Try.prog 32 #[.pointer (some ⟨x2, 0, none⟩), .int .i32 r] w9 fun e w' => e = .returned (.int .i64 (hh.length : Nat)) ∧ w' = w9) := C2
                          have hx5 : ((hh.length : Int) != (hh.length : Int)) = false := by simp
                          clear cm9 hbo J1 J2 C1 C2 ehh HCM8
                          go_wp2_with fail
                          refine HC1.out.mono ?_
                          rintro e w' ⟨rfl, hw⟩
                          obtain rfl := hw.symm
                          go_wp2_with fail
                          refine HC2.out.mono ?_
                          rintro e w' ⟨rfl, hw⟩
                          obtain rfl := hw.symm
                          clear HC1 HC2 hx1 hx2 hx5
                          go_wp2
                          go_loopw [27] (fun i wr => ∃ d : Nat, d ≤ hh.length ∧ i = .int .i64 d ∧ Hid (Cmp w6 wr w6.heap.size)) (fun i _ => hh.length - (intOf i).toNat)
                          case atStart => exact ⟨0, Nat.zero_le _, rfl, HCM9⟩
                          case round =>
                            obtain ⟨d, hd, rfl, HCMd⟩ := hrel
                            clear HCM9 hmu hlk
                            by_cases hdl : d < hh.length
                            · obtain ⟨wd, rfl⟩ : ∃ wd, wd = wr := ⟨_, rfl⟩
                              obtain ⟨pp, hpp⟩ : ∃ pp, hh[d]? = some pp := ⟨_, List.getElem?_eq_getElem hdl⟩
                              have hbo := HBo.out.below HCMd.out.bel
                              obtain ⟨wa, J1⟩ := hbo.i1
                              have HC1 : Hid (Calls Try.prog 33 #[.pointer (some ⟨x1, 0, none⟩), .int .i32 r, .int .i64 (d : Nat)] wd fun e w' => e = .returned (.tuple #[.int .i32 pp.1, .int .i32 pp.2]) ∧ ∃ o, w' = (wd.alloc o).drew) := J1.holding r (by rw [← HHH.out.1]; exact hpp)
                              have HPP : Hid (hh[d]? = some pp) := hpp
                              clear hbo J1 hpp
                              go_wp2_with fail
                              refine HC1.out.mono ?_
                              rintro e w7 ⟨rfl, o, hw⟩
                              have HCM7 : Hid (Cmp w6 w7 w6.heap.size) := by rw [hw]; exact HCMd.out.alloc o 1
                              clear hw HC1 HCMd
                              have hbo := HBo.out.below HCM7.out.bel
                              obtain ⟨wb, J2⟩ := hbo.i2
                              have HC1 : Hid (Calls Try.prog 33 #[.pointer (some ⟨x2, 0, none⟩), .int .i32 r, .int .i64 (d : Nat)] w7 fun e w' => e = .returned (.tuple #[.int .i32 pp.1, .int .i32 pp.2]) ∧ ∃ o, w' = (w7.alloc o).drew) := J2.holding r (by rw [← HHH.out.2]; exact HPP.out)
                              clear hbo J2
                              go_wp2_with fail
                              refine HC1.out.mono ?_
                              rintro e w8 ⟨rfl, o, hw⟩
                              have HCM8 : Hid (Cmp w6 w8 w6.heap.size) := by rw [hw]; exact HCM7.out.alloc o 1
                              clear hw HC1 HCM7
                              have hx6 : (pp.1 != pp.1) = false := by simp
                              have hx7 : (pp.2 != pp.2) = false := by simp
                              go_wp2
                              go_roundw
                              case rel => exact ⟨d + 1, by omega, by go_num, HCM8⟩
                              case measure => simp [intOf]; omega
                            · go_wp2
                              go_roundw
                              case rel => exact ⟨q + 1, by omega, by go_num, HCMd⟩
                              case measure => simp [intOf]; omega
                      · go_wp2
                        go_roundw
                        case rel => exact ⟨k + 1, by omega, by go_num, HCM2⟩
                        case measure => simp [intOf]; omega
                  · go_wp2
                    go_ret
                    exact ⟨rfl, HBel.out.trans (HCM.out.bel.mono HBel.out.size)⟩
end Go.Proofs.Qxb6600550a.Rad
