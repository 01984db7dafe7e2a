import Derived.Test.Qxb6600550aK2
import Derived.Deep.RegionHeld3
import Derived.BigQuiet
namespace Go.Proofs.Qxb6600550a.Rad
open Go.RowKit Go.Proofs.Qxb6600550a.Idx

set_option maxRecDepth 100000 in
set_option maxHeartbeats 16000000 in
theorem group_any (a : Option Addr) (n cap b : Nat) (us : List Ct) (w : World) (hn : n ≤ 32768) (h : Bs w w a b n us) (hg : ∀ u ∈ us, 0 ≤ u.g ∧ u.g ≤ 65536) (hl : ∀ u ∈ us, u.l ≤ 65536) :
    Calls Try.prog 18 #[.slice a n cap, .pointer (some ⟨b, 0, none⟩)] w fun e w' => e = .returned (.bool true) ∧ Below w.heap.size w w' := by
  have HB : Hid (Bs w w a b n us) := h
  have HG : Hid (∀ u ∈ us, 0 ≤ u.g ∧ u.g ≤ 65536) := hg
  have HL : Hid (∀ u ∈ us, u.l ≤ 65536) := hl
  have HN : Hid (us.length = n) := h.raw.len
  clear h hg hl
  have hmm := @run_makeMap Try.prog
  have hfl := store_flt
  go_enter Try.func18, Try.ntmps18
  go_wp2
  go_loopw [6, 7] (fun v i wr => ∃ j m : Nat, j ≤ n ∧ m ≤ 65536 ∧ v = .int .i64 m ∧ i = .int .i64 j ∧ wr = w ∧ Hid (∀ u ∈ us.take j, u.g ≤ (m : Int))) (fun _ i _ => n - (intOf i).toNat)
  case atStart => exact ⟨0, 0, Nat.zero_le _, by omega, rfl, rfl, rfl, by intro u hu; simp at hu⟩
  case round => as_aux_lemma =>
    obtain ⟨j, m, hj, hm, rfl, rfl, hw, HM⟩ := hrel
    obtain rfl := hw.symm
    by_cases hlt : j < n
    · as_aux_lemma =>
        obtain ⟨u, hu⟩ : ∃ u, us[j]? = some u := ⟨_, List.getElem?_eq_getElem (by rw [HN.out]; exact hlt)⟩
        obtain ⟨G, off, ta, tc, rfl, _, q0, _, _, _⟩ := HB.out.raw.row j u hu
        obtain ⟨hg1, hg2⟩ := HG.out u (List.mem_of_getElem? hu)
        have HT : Hid (∀ m' : Nat, u.g ≤ (m' : Int) → m ≤ m' → ∀ x ∈ us.take (j + 1), x.g ≤ (m' : Int)) := fun m' h1 h2 x hx => by
          have hjl : j < us.length := (List.getElem?_eq_some_iff.1 hu).1
          have hge : us[j] = u := by rw [List.getElem?_eq_getElem hjl] at hu; exact Option.some.inj hu
          rw [List.take_succ_eq_append_getElem hjl, hge] at hx
          rcases List.mem_append.1 hx with hx | hx
          · have := HM.out x hx; omega
          · simp at hx; subst hx; exact h1
        by_cases hgt : (m : Int) < u.g
        · obtain ⟨g, hgN⟩ := Int.eq_ofNat_of_zero_le hg1
          have HT2 : Hid (∀ x ∈ us.take (j + 1), x.g ≤ (g : Int)) := HT.out g (by omega) (by omega)
          rw [hgN] at q0 hgt hg2
          go_wp2
          go_roundw
          case rel => exact ⟨j + 1, g, by omega, by omega, rfl, by go_num, by trivial, HT2⟩
          case measure => simp [intOf]; omega
        · have HT2 : Hid (∀ x ∈ us.take (j + 1), x.g ≤ (m : Int)) := HT.out m (by omega) (by omega)
          go_wp2
          go_roundw
          case rel => exact ⟨j + 1, m, by omega, by omega, rfl, by go_num, by trivial, HT2⟩
          case measure => simp [intOf]; omega
    · as_aux_lemma =>
        obtain rfl : n = j := by omega
        have HMX : Hid (∀ u ∈ us, u.g ≤ (m : Int)) := fun u hu => HM.out u (by rw [List.take_of_length_le (by rw [HN.out]; exact Nat.le_refl _)]; exact hu)
        clear HM hj hlt hw
        obtain ⟨M1, hmk1, hMv1⟩ := make3 (m + 1) (by omega)
        have hmk1 : ∀ w : World, (Instr.makeSlice 75 (.int .i64 ((m : Int) + 1)) (.int .i64 ((m : Int) + 1))).run Try.prog w = .ok (.slice (some ⟨w.heap.size, 0, none⟩) (m + 1) (m + 1)) (w.alloc (.cells M1 3)) := hmk1
        obtain ⟨fB, hfB⟩ : ∃ fB, fB = w.heap.size := ⟨_, rfl⟩
        have HV0 : Hid (VRow (w.alloc (.cells M1 3)) fB (m + 1) 3 (fun i => .int .i64 (if i < 0 then -1 else 0))) := by rw [hfB]; exact (hMv1 w).congr (fun i _ => by simp)
        have HB0 : Hid (Below w.heap.size w (w.alloc (.cells M1 3))) := (Below.refl _ _).alloc (Nat.le_refl _) _
        clear hMv1
        have HFB : Hid (fB = w.heap.size) := hfB
        go_wp2
        rw [← hfB]
        clear hfB
        go_loopw [9] (fun i wr => ∃ g : Nat, g ≤ m + 1 ∧ i = .int .i64 g ∧ Hid (Below w.heap.size w wr) ∧ Hid (VRow wr fB (m + 1) 3 (fun i => .int .i64 (if i < g then -1 else 0)))) (fun i _ => (m + 1) - (intOf i).toNat)
        case atStart => exact ⟨0, Nat.zero_le _, rfl, HB0, HV0⟩
        case round => as_aux_lemma =>
          obtain ⟨g, hgm, rfl, HBe, HV⟩ := hrel
          clear HB0 HV0 hmk1
          by_cases hlt : g < m + 1
          · as_aux_lemma =>
              obtain ⟨x0, x1⟩ := HV.out.cell (i := g) hlt
              have HBn : Hid (Below w.heap.size w (wr.setCell ⟨fB, g, none⟩ (.int .i64 (-1)))) := HBe.out.setCell (by show w.heap.size ≤ fB; rw [HFB.out]; exact Nat.le_refl _) _
              have HVn : Hid (VRow (wr.setCell ⟨fB, g, none⟩ (.int .i64 (-1))) fB (m + 1) 3 (fun i => .int .i64 (if i < g + 1 then -1 else 0))) := (HV.out.set g _).congr (fun i _ => by
                show (if i = g then Value.int .i64 (-1) else .int .i64 (if i < g then -1 else 0)) = _
                by_cases hi : i = g
                · rw [if_pos hi, if_pos (by omega)]
                · rw [if_neg hi]
                  by_cases hi2 : i < g
                  · rw [if_pos hi2, if_pos (by omega)]
                  · rw [if_neg hi2, if_neg (by omega)])
              go_wp2
              go_roundw
              case rel => exact ⟨g + 1, by omega, by go_num, HBn, HVn⟩
              case measure => simp [intOf]; omega
          · have HV1 : Hid (VRow wr fB (m + 1) 3 (fun i => .int .i64 (fp us 0 i))) := HV.out.congr (fun i hi => by rw [if_pos (by omega)]; rfl)
            have hgm2 : m < g := by omega
            have hgm3 : decide (g ≤ m) = false := by simp; omega
            have hgm4 : decide ((g : Int) ≤ (m : Int)) = false := by simp; omega
            clear HV hgm hlt
            obtain ⟨w1, rfl⟩ : ∃ w1, w1 = wr := ⟨_, rfl⟩
            go_wp2
            go_loopw [10] (fun i wr => ∃ j : Nat, j ≤ n ∧ i = .int .i64 j ∧ Hid (Below w.heap.size w wr) ∧ Hid (VRow wr fB (m + 1) 3 (fun i => .int .i64 (fp us j i)))) (fun i _ => n - (intOf i).toNat)
            case atStart => exact ⟨0, Nat.zero_le _, rfl, HBe, HV1⟩
            case round => as_aux_lemma =>
              obtain ⟨j, hj, rfl, HBe, HV⟩ := hrel
              by_cases hlt : j < n
              · as_aux_lemma =>
                  obtain ⟨u, hu⟩ : ∃ u, us[j]? = some u := ⟨_, List.getElem?_eq_getElem (by rw [HN.out]; exact hlt)⟩
                  obtain ⟨G, off, ta, tc, rfl, _, q0, _, _, _⟩ := (HB.out.raw.below HBe.out).row j u hu
                  obtain ⟨hg1, hg2⟩ := HG.out u (List.mem_of_getElem? hu)
                  have hgm := HMX.out u (List.mem_of_getElem? hu)
                  obtain ⟨x0, x1⟩ := HV.out.cell (i := u.g.toNat) (by omega)
                  rw [Int.toNat_of_nonneg hg1] at x0
                  by_cases h0 : u.g = 0
                  · have HVn : Hid (VRow wr fB (m + 1) 3 (fun i => .int .i64 (fp us (j + 1) i))) := HV.out.congr (fun i _ => by rw [fp_skip us j u hu (.inl h0)])
                    go_wp2
                    all_goals
                      go_roundw
                      case rel => exact ⟨j + 1, by omega, by go_num, HBe, HVn⟩
                      case measure => simp [intOf]; omega
                  · by_cases hneg : fp us j u.g < 0
                    · have HBn : Hid (Below w.heap.size w (wr.setCell ⟨fB, u.g.toNat, none⟩ (.int .i64 (j : Int)))) := HBe.out.setCell (by show w.heap.size ≤ fB; rw [HFB.out]; exact Nat.le_refl _) _
                      have HVn : Hid (VRow (wr.setCell ⟨fB, u.g.toNat, none⟩ (.int .i64 (j : Int))) fB (m + 1) 3 (fun i => .int .i64 (fp us (j + 1) i))) := (HV.out.set u.g.toNat _).congr (fun i _ => by
                        rw [fp_step us j u hu]
                        show (if i = u.g.toNat then Value.int .i64 (j : Int) else .int .i64 (fp us j i)) = _
                        by_cases hi : i = u.g.toNat
                        · rw [if_pos hi, if_pos ⟨h0, hneg, by omega⟩]
                        · rw [if_neg hi, if_neg (fun ⟨_, _, e⟩ => hi (by omega))])
                      go_wp2
                      go_roundw
                      case rel => exact ⟨j + 1, by omega, by go_num, HBn, HVn⟩
                      case measure => simp [intOf]; omega
                    · have HVn : Hid (VRow wr fB (m + 1) 3 (fun i => .int .i64 (fp us (j + 1) i))) := HV.out.congr (fun i _ => by rw [fp_skip us j u hu (.inr (by omega))])
                      go_wp2
                      all_goals
                        go_roundw
                        case rel => exact ⟨j + 1, by omega, by go_num, HBe, HVn⟩
                        case measure => simp [intOf]; omega
              · as_aux_lemma =>
                  obtain rfl : n = j := by omega
                  have HVf : Hid (VRow wr fB (m + 1) 3 (fun i => .int .i64 (fp us n i))) := HV
                  have HBs : Hid (Bs w wr a b n us) := HB.out.below HBe.out
                  clear HV hj hlt HBe HV1 HB
                  obtain ⟨w2, rfl⟩ : ∃ w2, w2 = wr := ⟨_, rfl⟩
                  obtain ⟨M2, hmk2, hMv2⟩ := make3 (n + 1) (by omega)
                  have hmk2 : ∀ w : World, (Instr.makeSlice 75 (.int .i64 ((n : Int) + 1)) (.int .i64 ((n : Int) + 1))).run Try.prog w = .ok (.slice (some ⟨w.heap.size, 0, none⟩) (n + 1) (n + 1)) (w.alloc (.cells M2 3)) := hmk2
                  obtain ⟨kB, hkB⟩ : ∃ kB, kB = w2.heap.size := ⟨_, rfl⟩
                  have HV0 : Hid (VRow (w2.alloc (.cells M2 3)) kB (n + 1) 3 (fun i => .int .i64 (if i ≤ 0 then kb us i else 0))) := by
                    rw [hkB]
                    refine (hMv2 w2).congr (fun i _ => ?_)
                    by_cases hi : i ≤ 0
                    · rw [if_pos hi, show i = 0 by omega]; rfl
                    · rw [if_neg hi]
                  have HB0 : Hid (Below w2.heap.size w2 (w2.alloc (.cells M2 3))) := (Below.refl _ _).alloc (Nat.le_refl _) _
                  have HKB : Hid (kB = w2.heap.size) := hkB
                  clear hMv2
                  go_wp2
                  rw [← hkB]
                  clear hkB
                  go_loopw [13] (fun i wr => ∃ j : Nat, j ≤ n ∧ i = .int .i64 j ∧ Hid (Below w2.heap.size w2 wr) ∧ Hid (VRow wr kB (n + 1) 3 (fun i => .int .i64 (if i ≤ j then kb us i else 0)))) (fun i _ => n - (intOf i).toNat)
                  case atStart => exact ⟨0, Nat.zero_le _, rfl, HB0, HV0⟩
                  case round => as_aux_lemma =>
                    obtain ⟨j, hj, rfl, HBe, HV⟩ := hrel
                    clear HB0 HV0 hmk2
                    by_cases hlt : j < n
                    · as_aux_lemma =>
                        obtain ⟨u, hu⟩ : ∃ u, us[j]? = some u := ⟨_, List.getElem?_eq_getElem (by rw [HN.out]; exact hlt)⟩
                        have hbs := HBs.out.below HBe.out
                        obtain ⟨G, off, ta, tc, rfl, hGl, q0, _, _, _⟩ := hbs.raw.row j u hu
                        obtain ⟨hg1, hg2⟩ := HG.out u (List.mem_of_getElem? hu)
                        have hgm := HMX.out u (List.mem_of_getElem? hu)
                        obtain ⟨G0, off0, ta0, tc0, e0, hGl0, q00, _, _, _⟩ := HBs.out.raw.row j u hu
                        cases e0
                        have hGk : G ≠ kB := by rw [HKB.out]; omega
                        have hfk : fB ≠ kB := by have := HVf.out.lt; rw [HKB.out]; omega
                        obtain ⟨x0, x1⟩ := (HVf.out.below HBe.out).cell (i := u.g.toNat) (by omega)
                        rw [Int.toNat_of_nonneg hg1] at x0
                        have x2 := (HV.out.cell (i := j) (by omega)).1
                        obtain ⟨x3, x4⟩ := HV.out.cell (i := j + 1) (by omega)
                        rw [if_pos (Nat.le_refl j)] at x2
                        rw [if_neg (by omega)] at x3
                        obtain ⟨kj, hkj⟩ : ∃ kj, kj = kb us j := ⟨_, rfl⟩
                        rw [← hkj] at x2
                        have hkjn : kj ≤ n := by
                          have h1 := (ok_ixOf (us.take j)).le
                          have h2 : (us.take j).length ≤ j := by simp; omega
                          have h3 : kj = (ixOf (us.take j)).kinds.length := hkj
                          omega
                        have keyV : ∀ v : Nat, v = kb us (j + 1) → ∀ wz, VRow wz kB (n + 1) 3 (fun i => if i = j + 1 then .int .i64 (v : Int) else .int .i64 (if i ≤ j then kb us i else 0)) → VRow wz kB (n + 1) 3 (fun i => .int .i64 (if i ≤ j + 1 then kb us i else 0)) := fun v hv wz h => h.congr (fun i _ => by
                          by_cases hi : i = j + 1
                          · rw [if_pos hi, if_pos (by omega), hi, hv]
                          · rw [if_neg hi]
                            by_cases hi2 : i ≤ j
                            · rw [if_pos hi2, if_pos (by omega)]
                            · rw [if_neg hi2, if_neg (by omega)])
                        have hset : ∀ v : Value, Below w2.heap.size w2 (wr.setCell ⟨kB, j + 1, none⟩ v) := fun v => HBe.out.setCell (by show w2.heap.size ≤ kB; rw [HKB.out]; exact Nat.le_refl _) v
                        have q0' : (wr.setCell ⟨kB, j + 1, none⟩ (.int .i64 (kj : Int))).cell? ⟨G, off + j * 3, none⟩ = some (.int .i64 u.g) := by rw [World.cell?_setCell_other _ _ _ _ (fun e => hGk (congrArg Addr.block e).symm)]; exact q0
                        have x0' : (wr.setCell ⟨kB, j + 1, none⟩ (.int .i64 (kj : Int))).cell? ⟨fB, u.g.toNat, none⟩ = some (.int .i64 (fp us n u.g)) := by rw [World.cell?_setCell_other _ _ _ _ (fun e => hfk (congrArg Addr.block e).symm)]; exact x0
                        obtain ⟨y0, y1⟩ := (HV.out.set (j + 1) (.int .i64 (kj : Int))).cell (i := j + 1) (by omega)
                        rw [if_pos rfl] at y0
                        by_cases h0 : u.g = 0
                        · have HVn : Hid (VRow (wr.setCell ⟨kB, j + 1, none⟩ (.int .i64 (kj : Int))) kB (n + 1) 3 (fun i => .int .i64 (if i ≤ j + 1 then kb us i else 0))) := keyV kj (by rw [hkj]; exact (kb_skip us j u hu h0).symm) _ (HV.out.set (j + 1) _)
                          have HBn : Hid (Below w2.heap.size w2 (wr.setCell ⟨kB, j + 1, none⟩ (.int .i64 (kj : Int)))) := hset _
                          clear keyV hset hbs hkj
                          go_wp2
                          all_goals
                            go_roundw
                            case rel => exact ⟨j + 1, by omega, by go_num, HBn, HVn⟩
                            case measure => simp [intOf]; omega
                        · rcases fp_at us j u hu h0 with ⟨_, e1, e2⟩ | ⟨p, hp, _, e1, e2⟩
                          · rw [HN.out] at e1
                            rw [e1] at x0 x0'
                            have HVn : Hid (VRow ((wr.setCell ⟨kB, j + 1, none⟩ (.int .i64 (kj : Int))).setCell ⟨kB, j + 1, none⟩ (.int .i64 ((kj : Int) + 1))) kB (n + 1) 3 (fun i => .int .i64 (if i ≤ j + 1 then kb us i else 0))) := keyV (kj + 1) (by rw [e2, hkj]) _ (((HV.out.set (j + 1) (.int .i64 (kj : Int))).set (j + 1) (.int .i64 ((kj : Int) + 1))).congr (fun i _ => by
                              show (if i = j + 1 then Value.int .i64 ((kj : Int) + 1) else if i = j + 1 then .int .i64 (kj : Int) else .int .i64 (if i ≤ j then kb us i else 0)) = _
                              by_cases hi : i = j + 1
                              · rw [if_pos hi, if_pos hi]; rfl
                              · rw [if_neg hi, if_neg hi, if_neg hi]))
                            have HBn : Hid (Below w2.heap.size w2 ((wr.setCell ⟨kB, j + 1, none⟩ (.int .i64 (kj : Int))).setCell ⟨kB, j + 1, none⟩ (.int .i64 ((kj : Int) + 1)))) := (hset _).setCell (by show w2.heap.size ≤ kB; rw [HKB.out]; exact Nat.le_refl _) _
                            clear keyV hset hbs hkj e1 e2
                            have hne : (u.g != 0) = true := by simp [h0]
                            have heq : ((j : Int) == (j : Int)) = true := by simp
                            go_wp2
                            go_roundw
                            case rel => exact ⟨j + 1, by omega, by go_num, HBn, HVn⟩
                            case measure => simp [intOf]; omega
                          · rw [HN.out] at e1
                            rw [e1] at x0 x0'
                            have HVn : Hid (VRow (wr.setCell ⟨kB, j + 1, none⟩ (.int .i64 (kj : Int))) kB (n + 1) 3 (fun i => .int .i64 (if i ≤ j + 1 then kb us i else 0))) := keyV kj (by rw [hkj]; exact e2.symm) _ (HV.out.set (j + 1) _)
                            have HBn : Hid (Below w2.heap.size w2 (wr.setCell ⟨kB, j + 1, none⟩ (.int .i64 (kj : Int)))) := hset _
                            clear keyV hset hbs hkj e1 e2
                            have hne : (u.g != 0) = true := by simp [h0]
                            have heq : ((p : Int) == (j : Int)) = false := by simp; omega
                            go_wp2
                            go_roundw
                            case rel => exact ⟨j + 1, by omega, by go_num, HBn, HVn⟩
                            case measure => simp [intOf]; omega
                    · as_aux_lemma =>
                        obtain rfl : n = j := by omega
                        have HVk : Hid (VRow wr kB (n + 1) 3 (fun i => .int .i64 (kb us i))) := HV.out.congr (fun i hi => by rw [if_pos (by omega)])
                        have HVf2 : Hid (VRow wr fB (m + 1) 3 (fun i => .int .i64 (fp us n i))) := HVf.out.below HBe.out
                        have HBs2 : Hid (Bs w wr a b n us) := HBs.out.below HBe.out
                        have hfk : fB ≠ kB := by have := HVf.out.lt; rw [HKB.out]; omega
                        clear HV hj hlt HBe HBs HVf HKB
                        obtain ⟨w3, rfl⟩ : ∃ w3, w3 = wr := ⟨_, rfl⟩
                        obtain ⟨K, hK⟩ : ∃ K, K = kb us n := ⟨_, rfl⟩
                        have HK : Hid (K = kb us n ∧ K = (ixOf us).kinds.length) := ⟨hK, by rw [hK, ← HN.out]; exact kb_all us⟩
                        have hKn : K ≤ n := by
                          have h1 := (ok_ixOf us).le
                          rw [HN.out] at h1
                          rw [HK.out.2]; exact h1
                        have x0 := (HVk.out.cell (i := n) (by omega)).1
                        rw [← hK] at x0
                        obtain ⟨M3, hmk3, hMv3⟩ := make3 K (by omega)
                        obtain ⟨pB, hpB⟩ : ∃ pB, pB = w3.heap.size := ⟨_, rfl⟩
                        obtain ⟨cB, hcB⟩ : ∃ cB, cB = w3.heap.size + 1 := ⟨_, rfl⟩
                        have HP0 : Hid (∃ P : Nat → Int, VRow ((w3.alloc (.cells M3 3)).alloc (.cells M3 3)) pB K 3 (fun k => .int .i64 (P k)) ∧ PosOk us n 0 P) := ⟨fun _ => 0, by rw [hpB]; exact (hMv3 w3).alloc _, fun p u hp => by omega⟩
                        have HC0 : Hid (VRow ((w3.alloc (.cells M3 3)).alloc (.cells M3 3)) cB K 3 (fun k => .int .i64 (cnt (ixOf us).kindOf (us.take 0) k))) := by
                          rw [hcB]
                          have := hMv3 (w3.alloc (.cells M3 3))
                          rw [show (w3.alloc (.cells M3 3)).heap.size = w3.heap.size + 1 by simp] at this
                          exact this.congr (fun i _ => by simp [cnt])
                        have HB0 : Hid (Below w3.heap.size w3 ((w3.alloc (.cells M3 3)).alloc (.cells M3 3))) := ((Below.refl _ _).alloc (Nat.le_refl _) _).alloc (by simp) _
                        have HPB : Hid (pB = w3.heap.size ∧ cB = w3.heap.size + 1) := ⟨hpB, hcB⟩
                        clear hMv3 hK
                        go_wp2
                        rw [← hcB, ← hpB]
                        clear hpB hcB hmk3 x0
                        go_loopw [18, 19] (fun v i wr => ∃ j : Nat, j ≤ n ∧ v = .int .i64 (grp us j : Int) ∧ i = .int .i64 j ∧ Hid (Below w3.heap.size w3 wr) ∧ Hid (∃ P : Nat → Int, VRow wr pB K 3 (fun k => .int .i64 (P k)) ∧ PosOk us n j P) ∧ Hid (VRow wr cB K 3 (fun k => .int .i64 (cnt (ixOf us).kindOf (us.take j) k)))) (fun _ i _ => n - (intOf i).toNat)
                        case atStart => exact ⟨0, Nat.zero_le _, rfl, rfl, HB0, HP0, HC0⟩
                        case round => as_aux_lemma =>
                          obtain ⟨j, hj, rfl, rfl, HBe, HP, HC⟩ := hrel
                          clear HB0 HP0 HC0
                          by_cases hlt : j < n
                          · as_aux_lemma =>
                              obtain ⟨u, hu⟩ : ∃ u, us[j]? = some u := ⟨_, List.getElem?_eq_getElem (by rw [HN.out]; exact hlt)⟩
                              have hbs := HBs2.out.below HBe.out
                              obtain ⟨G, off, ta, tc, rfl, hGl, q0, _, _, _⟩ := hbs.raw.row j u hu
                              obtain ⟨hg1, hg2⟩ := HG.out u (List.mem_of_getElem? hu)
                              have hgm := HMX.out u (List.mem_of_getElem? hu)
                              obtain ⟨x0, x1⟩ := (HVf2.out.below HBe.out).cell (i := u.g.toNat) (by omega)
                              rw [Int.toNat_of_nonneg hg1] at x0
                              have hgs := grp_step us j u hu
                              have hgl := grp_le us j
                              have hcs := fun k => by
                                have hjl : j < us.length := (List.getElem?_eq_some_iff.1 hu).1
                                have hge : us[j] = u := by rw [List.getElem?_eq_getElem hjl] at hu; exact Option.some.inj hu
                                have := cnt_snoc (ixOf us).kindOf (us.take j) u k
                                rw [← hge, ← List.take_succ_eq_append_getElem hjl, hge] at this
                                exact this
                              by_cases h0 : u.g = 0
                              · have HGn : Hid (grp us (j + 1) = grp us j) := by show _ = _; rw [hgs]; simp [h0]
                                have HCn : Hid (VRow wr cB K 3 (fun k => .int .i64 (cnt (ixOf us).kindOf (us.take (j + 1)) k))) := HC.out.congr (fun k _ => by rw [hcs k, if_neg (by simp [h0])]; simp)
                                have HPn : Hid (∃ P : Nat → Int, VRow wr pB K 3 (fun k => .int .i64 (P k)) ∧ PosOk us n (j + 1) P) := by
                                  obtain ⟨P, h1, h2⟩ := HP.out
                                  refine ⟨P, h1, fun p u' hp hu' hg' he => h2 p u' ?_ hu' hg' he⟩
                                  rcases Nat.lt_or_ge p j with h | h
                                  · exact h
                                  · obtain rfl : p = j := by omega
                                    rw [hu] at hu'; cases hu'; exact absurd h0 hg'
                                clear hcs hgs hbs HC HP
                                go_wp2
                                all_goals
                                  refine ⟨⟨j + 1, by omega, by rw [HGn.out], by go_num, HBe, HPn, HCn⟩, by simp [intOf]; omega⟩
                              · obtain ⟨p, t', e1, hpj, e3, e4, e5, e6, e7⟩ := kind_at us j u hu h0
                                rw [HN.out] at e1
                                rw [← HK.out.2] at e7
                                rw [e1] at x0
                                have y0 := ((HVk.out.below HBe.out).cell (i := p) (by omega)).1
                                obtain ⟨k, hk⟩ : ∃ k, k = kb us p := ⟨_, rfl⟩
                                rw [← hk] at y0 e5 e7
                                have HGn : Hid (grp us (j + 1) = grp us j + 1) := by show _ = _; rw [hgs]; simp [h0]
                                obtain ⟨z0, z1⟩ := HC.out.cell (i := k) e7
                                have hcl : cnt (ixOf us).kindOf (us.take j) k ≤ j := by
                                  have h1 := List.length_filter_le (fun t => decide (t.g ≠ 0) && decide ((ixOf us).kindOf t.g = (k : Int))) (us.take j)
                                  have h2 : (us.take j).length ≤ j := by simp; omega
                                  unfold cnt
                                  omega
                                obtain ⟨c, hc⟩ : ∃ c, c = cnt (ixOf us).kindOf (us.take j) k := ⟨_, rfl⟩
                                rw [← hc] at z0 hcl
                                have hpc : pB ≠ cB := by have := HPB.out; omega
                                have hcp : cB ≠ pB := by have := HPB.out; omega
                                have keyC : ∀ wz, VRow wz cB K 3 (fun i => if i = k then .int .i64 ((c : Int) + 1) else .int .i64 (cnt (ixOf us).kindOf (us.take j) i)) → VRow wz cB K 3 (fun i => .int .i64 (cnt (ixOf us).kindOf (us.take (j + 1)) i)) := fun wz h => h.congr (fun i _ => by
                                  rw [hcs i]
                                  by_cases hi : i = k
                                  · rw [if_pos hi, hi, if_pos ⟨h0, e5⟩, ← hc]; simp
                                  · rw [if_neg hi, if_neg (by rw [e5]; omega)]; simp)
                                by_cases hpe : p = j
                                · subst hpe
                                  obtain ⟨P, hP1, hP2⟩ := HP.out
                                  obtain ⟨v0, v1⟩ := hP1.cell (i := k) e7
                                  have z0' := (HC.out.far (g := pB) hcp k (.int .i64 (p : Int))).cell (i := k) e7
                                  have z0a := z0'.1
                                  have z0b := z0'.2
                                  rw [← hc] at z0a
                                  have HCn : Hid (VRow ((wr.setCell ⟨pB, k, none⟩ (.int .i64 (p : Int))).setCell ⟨cB, k, none⟩ (.int .i64 ((c : Int) + 1))) cB K 3 (fun i => .int .i64 (cnt (ixOf us).kindOf (us.take (p + 1)) i))) := keyC _ ((HC.out.far (g := pB) hcp k (.int .i64 (p : Int))).set k _)
                                  have HPn : Hid (∃ P : Nat → Int, VRow ((wr.setCell ⟨pB, k, none⟩ (.int .i64 (p : Int))).setCell ⟨cB, k, none⟩ (.int .i64 ((c : Int) + 1))) pB K 3 (fun k => .int .i64 (P k)) ∧ PosOk us n (p + 1) P) := by
                                    refine ⟨updN P k p, ((hP1.set k (.int .i64 (p : Int))).far (g := cB) hpc k _).congr (fun i _ => ?_), fun p' u' hp' hu' hg' he => ?_⟩
                                    · show (if i = k then Value.int .i64 (p : Int) else .int .i64 (P i)) = .int .i64 (if i = k then (p : Int) else P i)
                                      by_cases hi : i = k
                                      · rw [if_pos hi, if_pos hi]
                                      · rw [if_neg hi, if_neg hi]
                                    · unfold updN
                                      rcases Nat.lt_or_ge p' p with h | h
                                      · rw [if_neg]
                                        · exact hP2 p' u' h hu' hg' he
                                        · intro ek
                                          obtain ⟨p'', t'', f1, _, _, _, f5, _, _⟩ := kind_at us p' u' hu' hg'
                                          rw [HN.out, he] at f1
                                          obtain rfl : p' = p'' := by omega
                                          have := (ok_ixOf us).inj u'.g u.g (by omega) (by rw [f5, ek, e5])
                                          rw [this, e1] at he
                                          omega
                                      · obtain rfl : p' = p := by omega
                                        rw [if_pos hk.symm]
                                  have HBn : Hid (Below w3.heap.size w3 ((wr.setCell ⟨pB, k, none⟩ (.int .i64 (p : Int))).setCell ⟨cB, k, none⟩ (.int .i64 ((c : Int) + 1)))) := (HBe.out.setCell (by show w3.heap.size ≤ pB; have := HPB.out; omega) _).setCell (by show w3.heap.size ≤ cB; have := HPB.out; omega) _
                                  have heq : ((p : Int) == (p : Int)) = true := by simp
                                  clear keyC hcs hgs hbs HC HP hP1 hP2 z0' e3 e4 e5 e6 hk hc e1
                                  go_wp2
                                  refine ⟨⟨p + 1, by omega, by rw [HGn.out]; go_num, by go_num, HBn, HPn, HCn⟩, by simp [intOf]; omega⟩
                                · have HCn : Hid (VRow (wr.setCell ⟨cB, k, none⟩ (.int .i64 ((c : Int) + 1))) cB K 3 (fun i => .int .i64 (cnt (ixOf us).kindOf (us.take (j + 1)) i))) := keyC _ (HC.out.set k _)
                                  have HPn : Hid (∃ P : Nat → Int, VRow (wr.setCell ⟨cB, k, none⟩ (.int .i64 ((c : Int) + 1))) pB K 3 (fun k => .int .i64 (P k)) ∧ PosOk us n (j + 1) P) := by
                                    obtain ⟨P, hP1, hP2⟩ := HP.out
                                    refine ⟨P, hP1.far (g := cB) hpc k _, fun p' u' hp' hu' hg' he => ?_⟩
                                    rcases Nat.lt_or_ge p' j with h | h
                                    · exact hP2 p' u' h hu' hg' he
                                    · obtain rfl : p' = j := by omega
                                      rw [hu] at hu'; cases hu'
                                      rw [e1] at he
                                      omega
                                  have HBn : Hid (Below w3.heap.size w3 (wr.setCell ⟨cB, k, none⟩ (.int .i64 ((c : Int) + 1)))) := HBe.out.setCell (by show w3.heap.size ≤ cB; have := HPB.out; omega) _
                                  have heq : ((p : Int) == (j : Int)) = false := by simp; omega
                                  clear keyC hcs hgs hbs HC HP e3 e4 e5 e6 hk hc e1
                                  go_wp2
                                  refine ⟨⟨j + 1, by omega, by rw [HGn.out]; go_num, by go_num, HBn, HPn, HCn⟩, by simp [intOf]; omega⟩
                          · as_aux_lemma =>
                              obtain rfl : n = j := by omega
                              obtain ⟨P, hP1, hP2⟩ := HP.out
                              have HA : Hid (AllB w wr a b n us fB kB pB cB m K P) := ⟨HBs2.out.below HBe.out, HVf2.out.below HBe.out, HVk.out.below HBe.out, hP1, by
                                have := HC.out
                                rwa [List.take_of_length_le (by rw [HN.out]; exact Nat.le_refl _)] at this⟩
                              have HPl : Hid (∀ k, k < K → ∃ (u : Ct) (p : Nat), (ixOf us).kinds[k]? = some u ∧ us[p]? = some u ∧ p < n ∧ P k = p) := fun k hk => by
                                have hkl : k < (ixOf us).kinds.length := by rw [← HK.out.2]; exact hk
                                obtain ⟨p, a1, a2, a3, a4, a5⟩ := place_of us k _ (List.getElem?_eq_getElem hkl)
                                rw [HN.out] at a1 a4
                                refine ⟨_, p, List.getElem?_eq_getElem hkl, a2, a1, ?_⟩
                                rw [← a5]
                                exact hP2 p _ a1 a2 a3 a4
                              have hgn := grp_le us n
                              clear hj hlt HBs2 HVf2 HVk HBe HP HC hP1 hP2 HPB
                              obtain ⟨w4, rfl⟩ : ∃ w4, w4 = wr := ⟨_, rfl⟩
                              obtain ⟨wa, J⟩ := HA.out.bs.ix
                              have C1 := J.kindCount
                              rw [← HK.out.2] at C1
                              have HC1 : Hid (Calls Try.prog 20 #[.pointer (some ⟨b, 0, none⟩)] w4 fun e w' => e = .returned (.int .i64 (K : Nat)) ∧ w' = w4) := C1
                              have hKK : ((K : Int) != (K : Int)) = false := by simp
                              clear J C1
                              go_wp2_with fail
                              refine HC1.out.mono ?_
                              rintro e w' ⟨rfl, hw⟩
                              obtain rfl := hw.symm
                              clear HC1
                              go_wp2
                              go_loopw [22] (fun i wr => ∃ k : Nat, k ≤ K ∧ i = .int .i64 k ∧ Hid (Below w4.heap.size w4 wr)) (fun i _ => K - (intOf i).toNat)
                              case atStart => exact ⟨0, Nat.zero_le _, rfl, Below.refl _ _⟩
                              case round => as_aux_lemma =>
                                obtain ⟨k, hk, rfl, HBe⟩ := hrel
                                by_cases hkl : k < K
                                · as_aux_lemma =>
                                    obtain ⟨u, p, hu, hup, hpn, hPk⟩ := HPl.out k hkl
                                    have ha := HA.out.below HBe.out
                                    have x0 := (ha.vp.cell (i := k) hkl).1
                                    rw [hPk] at x0
                                    obtain ⟨G, off, ta, tc, rfl, hGl, q0, q1, q2, hch⟩ := ha.bs.raw.row p u hup
                                    have hul := HL.out u (List.mem_of_getElem? hup)
                                    have hst := store_float wr (.int .i64 u.g) (.slice ta u.l tc) 0 u.wt 42
                                    have hbx := heap_alloc_new wr (.cells #[.int .i64 u.g, .slice ta u.l tc, .float .f64 u.wt] 42)
                                    have HAv : Hid (AllB w (wr.alloc (.cells #[.int .i64 u.g, .slice ta u.l tc, .float .f64 u.wt] 42)) (some ⟨G, off, none⟩) b n us fB kB pB cB m K P) := ha.below (below_alloc _ _)
                                    have HCv : Hid (ChRow (wr.alloc (.cells #[.int .i64 u.g, .slice ta u.l tc, .float .f64 u.wt] 42)) ta u.l u.chs) := hch.kept (below_alloc _ _)
                                    have HBv : Hid (Below w4.heap.size w4 (wr.alloc (.cells #[.int .i64 u.g, .slice ta u.l tc, .float .f64 u.wt] 42))) := HBe.out.trans ((below_alloc _ _).mono HBe.out.size)
                                    obtain ⟨wv, hwv⟩ : ∃ wv, wv = wr.alloc (.cells #[.int .i64 u.g, .slice ta u.l tc, .float .f64 u.wt] 42) := ⟨_, rfl⟩
                                    rw [← hwv] at HAv HCv HBv hbx
                                    obtain ⟨bx, hbxe⟩ : ∃ bx, bx = wr.heap.size := ⟨_, rfl⟩
                                    rw [← hbxe] at hbx
                                    have HBX : Hid (∀ wz, Below wv.heap.size wv wz → wz.cell? ⟨bx, 0, none⟩ = some (.int .i64 u.g) ∧ wz.cell? ⟨bx, 1, none⟩ = some (.slice ta u.l tc) ∧ wz.cell? ⟨bx, 2, none⟩ = some (.float .f64 u.wt)) := fun wz hb => by
                                      have hlt := (Array.getElem?_eq_some_iff.1 hbx).1
                                      have e := (hb.block bx hlt).trans hbx
                                      exact ⟨by rw [cell_of_row _ _ _ _ _ _ e]; rfl, by rw [cell_of_row _ _ _ _ _ _ e]; rfl, by rw [cell_of_row _ _ _ _ _ _ e]; rfl⟩
                                    have HU : Hid ((ixOf us).kinds[k]? = some u ∧ u ∈ us) := ⟨hu, List.mem_of_getElem? hup⟩
                                    have HD26 : Hid (∀ q, Calls Try.prog 26 #[.pointer (some ⟨b, 0, none⟩), .int .i64 (k : Nat)] (wv.drewN q) fun e w' => e = .returned (.int .i64 u.g) ∧ w' = wv.drewN q) := fun q => by
                                      obtain ⟨wa, J⟩ := (HAv.out.below (below_drewN _ q)).bs.ix
                                      exact J.group HU.out.1
                                    have HD28 : Hid (∀ q, Calls Try.prog 28 #[.pointer (some ⟨b, 0, none⟩), .int .i64 (k : Nat)] (wv.drewN q) fun e w' => e = .returned (.float .f64 u.wt) ∧ w' = wv.drewN q) := fun q => by
                                      obtain ⟨wa, J⟩ := (HAv.out.below (below_drewN _ q)).bs.ix
                                      exact J.weight HU.out.1
                                    have HD30 : Hid (∀ q, Calls Try.prog 30 #[.pointer (some ⟨b, 0, none⟩), .int .i64 (k : Nat)] (wv.drewN q) fun e w' => e = .returned (.int .i64 (u.l : Nat)) ∧ w' = wv.drewN q) := fun q => by
                                      obtain ⟨wa, J⟩ := (HAv.out.below (below_drewN _ q)).bs.ix
                                      exact J.charsLen HU.out.1
                                    have hx1 : (u.g != u.g) = false := by simp
                                    have hx2 : ((u.l : Int) != (u.l : Int)) = false := by simp
                                    have HS1 : Hid (∀ q, (wv.drewN q).cell? ⟨bx, 0, none⟩ = some (.int .i64 u.g) ∧ (wv.drewN q).cell? ⟨bx, 1, none⟩ = some (.slice ta u.l tc) ∧ (wv.drewN q).cell? ⟨bx, 2, none⟩ = some (.float .f64 u.wt)) := fun q => HBX.out _ (below_drewN _ q)
                                    clear ha hu hup hbx hch hPk HBe hGl
                                    go_upto_region 47 with fail
                                    rw [← hwv, ← hbxe]
                                    clear hwv hbxe hst q0 q1 q2 x0
                                    go_region_held3 (fun wz => wz.cell? ⟨bx, 0, none⟩ = some (.int .i64 u.g) ∧ wz.cell? ⟨bx, 1, none⟩ = some (.slice ta u.l tc) ∧ wz.cell? ⟨bx, 2, none⟩ = some (.float .f64 u.wt))
                                      (exact HS1.out 1)
                                      ((first
                                        | (go_at_call 26; refine (HD26.out 1).mono ?_; rintro e w' ⟨rfl, rfl⟩)
                                        | (go_at_call 28; refine (HD28.out 1).mono ?_; rintro e w' ⟨rfl, rfl⟩)
                                        | (go_at_call 27; refine (sameFloat_self _ _).mono ?_; rintro e w' ⟨rfl, rfl⟩)))
                                    go_upto_region 49 with fail
                                    go_region_held3 (fun wz => wz.cell? ⟨bx, 0, none⟩ = some (.int .i64 u.g) ∧ wz.cell? ⟨bx, 1, none⟩ = some (.slice ta u.l tc) ∧ wz.cell? ⟨bx, 2, none⟩ = some (.float .f64 u.wt))
                                      (exact HS1.out 2)
                                      ((go_at_call 30; refine (HD30.out 2).mono ?_; rintro e w' ⟨rfl, rfl⟩))
                                    clear HD26 HD28 HD30 HS1
                                    go_wp2
                                    go_loopw [24] (fun i wr => ∃ c : Nat, c ≤ u.l ∧ i = .int .i64 c ∧ Hid (Below wv.heap.size wv wr)) (fun i _ => u.l - (intOf i).toNat)
                                    case atStart => exact ⟨0, Nat.zero_le _, rfl, ⟨rfl, rfl, rfl, Nat.le_refl _, fun _ _ => rfl⟩⟩
                                    case round => as_aux_lemma =>
                                      obtain ⟨c, hc, rfl, HBc⟩ := hrel
                                      obtain ⟨wc, rfl⟩ : ∃ wc, wc = wr := ⟨_, rfl⟩
                                      obtain ⟨b0, b1, b2⟩ := HBX.out wc HBc.out
                                      by_cases hcl : c < u.l
                                      · obtain ⟨⟨r, p', x⟩, hcv⟩ : ∃ ch, u.chs[c]? = some ch := ⟨_, List.getElem?_eq_getElem (by rw [HCv.out.1]; exact hcl)⟩
                                        obtain ⟨cb, co, rfl, hcb, hcc⟩ := HCv.out.2 (by omega)
                                        obtain ⟨d0, d1, d2⟩ := hcc c r p' x hcv
                                        have ha := HAv.out.below HBc.out
                                        obtain ⟨wa, J⟩ := ha.bs.ix
                                        have HC31 : Hid (Calls Try.prog 31 #[.pointer (some ⟨b, 0, none⟩), .int .i64 (k : Nat), .int .i64 (c : Nat)] wc fun e w' => e = .returned (.tuple #[.int .i32 r, .int .i32 p', .float .f64 x]) ∧ ∃ o, w' = (wc.alloc o).drew) := J.char HU.out.1 (ha.bs.ch u HU.out.2) hcv
                                        clear ha J hcc hcv
                                        go_wp2_with fail
                                        refine HC31.out.mono ?_
                                        rintro e w7 ⟨rfl, o, hw⟩
                                        have hb7 : Below wc.heap.size wc w7 := by rw [hw]; have := below_alloc wc o; exact ⟨this.os, this.tape, this.output, this.size, this.block⟩
                                        have HB7 : Hid (Below wv.heap.size wv w7) := HBc.out.trans (hb7.mono HBc.out.size)
                                        obtain ⟨b0', b1', b2'⟩ := HBX.out w7 HB7.out
                                        have d0' := (HB7.out.cell (p := ⟨cb, co + c * 3, none⟩) hcb).trans d0
                                        have d1' := (HB7.out.cell (p := ⟨cb, co + c * 3 + 1, none⟩) hcb).trans d1
                                        have d2' := (HB7.out.cell (p := ⟨cb, co + c * 3 + 2, none⟩) hcb).trans d2
                                        have hy1 : (r != r) = false := by simp
                                        have hy2 : (p' != p') = false := by simp
                                        have HC27 : Hid (Calls Try.prog 27 #[.float .f64 x, .float .f64 x] w7 fun e w' => e = .returned (.bool true) ∧ w' = w7) := sameFloat_self x w7
                                        clear hw hb7 HC31 b0 b1 b2 d0 d1 d2 HBc
                                        go_wp2_with fail
                                        refine HC27.out.mono ?_
                                        rintro e w' ⟨rfl, hw⟩
                                        obtain rfl := hw.symm
                                        go_wp2
                                        go_roundw
                                        case rel => exact ⟨c + 1, by omega, by go_num, HB7⟩
                                        case measure => simp [intOf]; omega
                                      · go_wp2
                                        go_roundw
                                        case rel => exact ⟨k + 1, by omega, by go_num, HBv.out.trans (HBc.out.mono HBv.out.size)⟩
                                        case measure => simp [intOf]; omega
                                · as_aux_lemma =>
                                    obtain rfl : K = k := by omega
                                    have HA5 : Hid (AllB w wr a b n us fB kB pB cB m K P) := HA.out.below HBe.out
                                    clear HBe HA hk hkl
                                    obtain ⟨w5, rfl⟩ : ∃ w5, w5 = wr := ⟨_, rfl⟩
                                    obtain ⟨wa, J⟩ := HA5.out.bs.ix
                                    have hcl : (ixOf us).count.length = K := by rw [HK.out.2]; exact (ok_ixOf us).len
                                    obtain ⟨gf, V1, C1⟩ := J.firsts
                                    have hM := first_grp us
                                    rw [HN.out, hcl] at hM
                                    rw [hcl] at V1 C1
                                    have HC1 : Hid (Calls Try.prog 23 #[.pointer (some ⟨b, 0, none⟩)] w5 fun e w' => e = .returned (.slice (some ⟨gf, 0, none⟩) (K + 1) (K + 1)) ∧ w' = w5) := C1
                                    have HVF : Hid (VRow w5 gf (K + 1) 21 (fun i => .int .i32 (first (ixOf us).count i))) := V1
                                    have z0 := (V1.cell (i := 0) (by omega)).1
                                    rw [first_zero] at z0
                                    have hz1 : ((K : Int) + 1 != (K : Int) + 1) = false := by simp
                                    have HFS : Hid (∀ k, k < K → ∃ f0 c : Nat, first (ixOf us).count k = (f0 : Int) ∧ first (ixOf us).count (k + 1) = (f0 : Int) + c ∧ c = cnt (ixOf us).kindOf us k ∧ f0 + c ≤ grp us n) := fun k hk => by
                                      have o := ok_ixOf us
                                      have h1 := first_succ _ _ _ (o.num k (by rw [← HK.out.2]; exact hk))
                                      have h2 := (first_rng us k (by rw [hcl]; omega)).1
                                      obtain ⟨f0, e⟩ := Int.eq_ofNat_of_zero_le h2
                                      have h3 := first_mono (ixOf us).count (count_pos us) (k + 1) (K - (k + 1))
                                      rw [show k + 1 + (K - (k + 1)) = K by omega, hM] at h3
                                      refine ⟨f0, _, e, by rw [h1, e], rfl, ?_⟩
                                      rw [h1, e] at h3
                                      omega
                                    clear J C1 V1 hM hcl
                                    go_wp2_with fail
                                    refine HC1.out.mono ?_
                                    rintro e w' ⟨rfl, hw⟩
                                    obtain rfl := hw.symm
                                    clear HC1
                                    go_wp2
                                    go_loopw [29] (fun i wr => ∃ k : Nat, k ≤ K ∧ i = .int .i64 k ∧ Hid (Below w5.heap.size w5 wr)) (fun i _ => K - (intOf i).toNat)
                                    case atStart => exact ⟨0, Nat.zero_le _, rfl, Below.refl _ _⟩
                                    case round => as_aux_lemma =>
                                      obtain ⟨k, hk, rfl, HBe⟩ := hrel
                                      by_cases hkl : k < K
                                      · as_aux_lemma =>
                                          obtain ⟨f0, c, e0, e1, e2, e3⟩ := HFS.out k hkl
                                          have x0 := ((HVF.out.below HBe.out).cell (i := k) (by omega)).1
                                          have x1 := ((HVF.out.below HBe.out).cell (i := k + 1) (by omega)).1
                                          have x2 := ((HA5.out.below HBe.out).vc.cell (i := k) hkl).1
                                          rw [e0] at x0
                                          rw [e1] at x1
                                          rw [← e2] at x2
                                          have i0 : (0 : Int) ≤ (k : Int) := by omega
                                          have i1 : (k : Int) < (K : Int) + 1 := by omega
                                          have i2 : (0 : Int) ≤ (k : Int) + 1 := by omega
                                          have i3 : (k : Int) + 1 < (K : Int) + 1 := by omega
                                          have i3' : (k : Int) < (K : Int) := by omega
                                          have i4 : IntKind.i64.wrap ((k : Int) + 1) = (k : Int) + 1 := by rw [IntKind.wrap_i64]; omega
                                          have i5 : IntKind.i64.wrap (f0 : Int) = f0 := by rw [IntKind.wrap_i64]; omega
                                          have i6 : IntKind.i64.wrap ((f0 : Int) + c) = (f0 : Int) + c := by rw [IntKind.wrap_i64]; omega
                                          have i7 : IntKind.i64.wrap ((f0 : Int) + c - f0) = c := by rw [IntKind.wrap_i64]; omega
                                          have i8 : ((c : Int) != (c : Int)) = false := by simp
                                          have HXa : Hid (wr.drew.cell? ⟨gf, k, none⟩ = some (.int .i32 (f0 : Int)) ∧ wr.drew.cell? ⟨gf, k + 1, none⟩ = some (.int .i32 ((f0 : Int) + c)) ∧ wr.drew.cell? ⟨cB, k, none⟩ = some (.int .i64 (c : Int))) := ⟨x0, x1, x2⟩
                                          have HBn : Hid (Below w5.heap.size w5 wr.drew) := ⟨HBe.out.os, HBe.out.tape, HBe.out.output, HBe.out.size, HBe.out.block⟩
                                          clear e0 e1 e2
                                          go_wp2
                                          go_region_held3 (fun wz => wz.cell? ⟨gf, k, none⟩ = some (.int .i32 (f0 : Int)) ∧ wz.cell? ⟨gf, k + 1, none⟩ = some (.int .i32 ((f0 : Int) + c)) ∧ wz.cell? ⟨cB, k, none⟩ = some (.int .i64 (c : Int)))
                                            (with_reducible exact HXa.out)
                                            (fail)
                                          go_wp2
                                          go_roundw
                                          case rel => exact ⟨k + 1, by omega, by go_num, HBn⟩
                                          case measure => simp [intOf]; omega
                                      · as_aux_lemma =>
                                          obtain rfl : K = k := by omega
                                          have HA6 : Hid (AllB w wr a b n us fB kB pB cB m K P) := HA5.out.below HBe.out
                                          have HVF6 : Hid (VRow wr gf (K + 1) 21 (fun i => .int .i32 (first (ixOf us).count i))) := HVF.out.below HBe.out
                                          clear HBe HA5 HVF hk hkl
                                          obtain ⟨w6, rfl⟩ : ∃ w6, w6 = wr := ⟨_, rfl⟩
                                          obtain ⟨wa, J⟩ := HA6.out.bs.ix
                                          obtain ⟨gm, M, hM, V2, C2⟩ := J.members
                                          obtain rfl : M = grp us n := by
                                            have := first_grp us
                                            rw [hM, HN.out] at this
                                            omega
                                          rw [HN.out] at V2
                                          have HC2 : Hid (Calls Try.prog 22 #[.pointer (some ⟨b, 0, none⟩)] w6 fun e w' => e = .returned (.slice (some ⟨gm, 0, none⟩) (grp us n) (grp us n)) ∧ w' = w6) := C2
                                          have HVM : Hid (VRow w6 gm (grp us n) 21 (fun i => .int .i32 ((memAt (ixOf us).kindOf (ixOf us).count us n).1 i))) := V2
                                          obtain ⟨gn, hgne⟩ : ∃ gn, gn = grp us n := ⟨_, rfl⟩
                                          rw [← hgne] at HC2 HVM HFS hgn
                                          rw [← hgne]
                                          have hgg : ((gn : Int) != (gn : Int)) = false := by simp
                                          clear J C2 V2 hM hgne
                                          go_wp2_with fail
                                          refine HC2.out.mono ?_
                                          rintro e w' ⟨rfl, hw⟩
                                          obtain rfl := hw.symm
                                          clear HC2
                                          go_wp2
                                          go_loopw [31] (fun i wr => ∃ k : Nat, k ≤ K ∧ i = .int .i64 k ∧ Hid (Below w6.heap.size w6 wr)) (fun i _ => K - (intOf i).toNat)
                                          case atStart => exact ⟨0, Nat.zero_le _, rfl, Below.refl _ _⟩
                                          case round => as_aux_lemma =>
                                            obtain ⟨k, hk, rfl, HBe⟩ := hrel
                                            by_cases hkl : k < K
                                            · as_aux_lemma =>
                                                obtain ⟨f0, c, e0, e1, e2, e3⟩ := HFS.out k hkl
                                                have x0 := ((HVF6.out.below HBe.out).cell (i := k) (by omega)).1
                                                have x1 := ((HVF6.out.below HBe.out).cell (i := k + 1) (by omega)).1
                                                rw [e0] at x0
                                                rw [e1] at x1
                                                have HE : Hid (first (ixOf us).count k = (f0 : Int) ∧ c = cnt (ixOf us).kindOf us k) := ⟨e0, e2⟩
                                                have i5 : IntKind.i64.wrap (f0 : Int) = f0 := by rw [IntKind.wrap_i64]; omega
                                                have i6 : IntKind.i64.wrap ((f0 : Int) + c) = (f0 : Int) + c := by rw [IntKind.wrap_i64]; omega
                                                clear e0 e1 e2
                                                go_wp2
                                                go_loopw [34] (fun i wr => ∃ sN : Nat, f0 ≤ sN ∧ sN ≤ f0 + c ∧ i = .int .i64 (sN : Int) ∧ Hid (Below w6.heap.size w6 wr)) (fun i _ => (f0 + c) - (intOf i).toNat)
                                                case atStart => exact ⟨f0, Nat.le_refl _, by omega, rfl, HBe⟩
                                                case round => as_aux_lemma =>
                                                  obtain ⟨sN, hs1, hs2, rfl, HBq⟩ := hrel
                                                  clear HBe x0 x1
                                                  by_cases hqc : sN < f0 + c
                                                  · obtain ⟨p, t, m1, m2, m3, m4, m5, m6⟩ := mem_at us n (by rw [HN.out]; exact Nat.le_refl _) k (by rw [← HK.out.2]; exact hkl) (sN - f0) (by rw [List.take_of_length_le (by rw [HN.out]; exact Nat.le_refl _), ← HE.out.2]; omega)
                                                    rw [HE.out.1, Int.toNat_natCast, show f0 + (sN - f0) = sN by omega] at m1
                                                    obtain ⟨p0, t0, n1, n2, n3, n4, n5, n6, n7⟩ := kind_at us p t m3 m4
                                                    rw [HN.out] at n1
                                                    have hkp : kb us p0 = k := by omega
                                                    have ha := HA6.out.below HBq.out
                                                    have y0 := ((HVM.out.below HBq.out).cell (i := sN) (by omega)).1
                                                    rw [m1] at y0
                                                    obtain ⟨G, off, ta, tc, rfl, _, y1, _, _, _⟩ := ha.bs.raw.row p t m3
                                                    obtain ⟨hg1, hg2⟩ := HG.out t (List.mem_of_getElem? m3)
                                                    have hgm := HMX.out t (List.mem_of_getElem? m3)
                                                    have y2 := (ha.vf.cell (i := t.g.toNat) (by omega)).1
                                                    rw [Int.toNat_of_nonneg hg1, n1] at y2
                                                    have y3 := (ha.vk.cell (i := p0) (by omega)).1
                                                    rw [hkp] at y3
                                                    have hkk : ((k : Int) != (k : Int)) = false := by simp
                                                    have ht0 : (t.g == 0) = false := by simp [m4]
                                                    have i7 : IntKind.i64.wrap (p : Int) = p := by rw [IntKind.wrap_i64]; omega
                                                    clear m1 m5 n1 n3 n4 n5 n6 n7 ha
                                                    by_cases hq0 : sN = f0
                                                    · subst hq0
                                                      go_wp2
                                                      go_roundw
                                                      case rel => exact ⟨sN + 1, by omega, by omega, by go_num, HBq⟩
                                                      case measure => simp [intOf]; omega
                                                    · obtain ⟨s', rfl⟩ : ∃ s', sN = s' + 1 := ⟨sN - 1, by omega⟩
                                                      obtain ⟨p1, t1, l1, l2, _, _, _, l6⟩ := mem_at us n (by rw [HN.out]; exact Nat.le_refl _) k (by rw [← HK.out.2]; exact hkl) (s' - f0) (by rw [List.take_of_length_le (by rw [HN.out]; exact Nat.le_refl _), ← HE.out.2]; omega)
                                                      rw [HE.out.1, Int.toNat_natCast, show f0 + (s' - f0) = s' by omega] at l1
                                                      have hpp := mem_lt us k p1 p (s' - f0) (s' + 1 - f0) l6 m6 (by omega)
                                                      have y4 := ((HVM.out.below HBq.out).cell (i := s') (by omega)).1
                                                      rw [l1] at y4
                                                      have i8 : IntKind.i64.wrap (p1 : Int) = p1 := by rw [IntKind.wrap_i64]; omega
                                                      have i9 : IntKind.i64.wrap ((s' : Int) + 1 - 1) = s' := by rw [IntKind.wrap_i64]; omega
                                                      have i10 : decide ((p1 : Int) ≥ (p : Int)) = false := by simp; omega
                                                      clear l1 l6 m6
                                                      go_wp2
                                                      go_roundw
                                                      case rel => exact ⟨s' + 1 + 1, by omega, by omega, by go_num, HBq⟩
                                                      case measure => simp [intOf]; omega
                                                  · obtain rfl : sN = f0 + c := by omega
                                                    go_wp2
                                                    go_roundw
                                                    case rel => exact ⟨k + 1, by omega, by go_num, HBq⟩
                                                    case measure => simp [intOf]; omega
                                            · as_aux_lemma =>
                                                obtain rfl : K = k := by omega
                                                have HA7 : Hid (AllB w wr a b n us fB kB pB cB m K P) := HA6.out.below HBe.out
                                                clear HBe HA6 HVF6 HVM HFS hk hkl hgn hgg hz1
                                                obtain ⟨w7, rfl⟩ : ∃ w7, w7 = wr := ⟨_, rfl⟩
                                                obtain ⟨ks, hks⟩ : ∃ ks, ks = (ixOf us).kinds := ⟨_, rfl⟩
                                                have HKS : Hid (ks = (ixOf us).kinds ∧ ks.length = K) := ⟨hks, by rw [hks]; exact HK.out.2.symm⟩
                                                have HCh : Hid (∀ t ∈ ks, t.chs.length ≤ 65536 ∧ t.chs.length = t.l) := fun t ht => by
                                                  have hm := kinds_mem us t (by rw [← hks]; exact ht)
                                                  have h1 := (HA7.out.bs.ch t hm).1
                                                  have h2 := HL.out t hm
                                                  exact ⟨by omega, h1⟩
                                                have HNum : Hid (∀ k, k ≤ K → (hdOf ks k).n ≤ k * 65536) := fun k hk => hdOf_num ks (fun t ht => (HCh.out t ht).1) k (by rw [HKS.out.2]; exact hk)
                                                obtain ⟨cm, hcm⟩ : ∃ cm, cm = w7.heap.size := ⟨_, rfl⟩
                                                have HCu0 : Hid (Cur w7 (w7.alloc (.map #[] 0)) cm (hdOf ks 0) (hdOf ks 0).n (.slice none (hdOf ks 0).n 0)) := by rw [hcm]; exact Cur.start w7
                                                clear hks
                                                go_wp2
                                                rw [← hcm]
                                                clear hcm
                                                go_loopw [38, 39, 40] (fun v e i wr => ∃ k : Nat, k ≤ K ∧ i = .int .i64 k ∧ e = .int .i64 (emp ks k : Int) ∧ ∃ va vc, v = .slice va (hdOf ks k).n vc ∧ Hid (Cur w7 wr cm (hdOf ks k) (hdOf ks k).n (.slice va (hdOf ks k).n vc))) (fun _ _ i _ => K - (intOf i).toNat)
                                                case atStart => exact ⟨0, Nat.zero_le _, rfl, rfl, none, 0, rfl, HCu0⟩
                                                case round => as_aux_lemma =>
                                                  obtain ⟨k, hk, rfl, rfl, va, vc, rfl, HCu⟩ := hrel
                                                  clear HCu0
                                                  by_cases hkl : k < K
                                                  · as_aux_lemma =>
                                                      obtain ⟨u, p, hu, hup, hpn, hPk⟩ := HPl.out k hkl
                                                      have HTop : Hid (ks[k]? = some u) := by rw [HKS.out.1]; exact hu
                                                      have ha := HA7.out.below HCu.out.bel
                                                      have x0 := (ha.vp.cell (i := k) hkl).1
                                                      rw [hPk] at x0
                                                      obtain ⟨G, off, ta, tc, rfl, hGl, q0, q1, q2, hch⟩ := ha.bs.raw.row p u hup
                                                      have hul := HL.out u (List.mem_of_getElem? hup)
                                                      have hst := store_float wr (.int .i64 u.g) (.slice ta u.l tc) 0 u.wt 42
                                                      have hbx := heap_alloc_new wr (.cells #[.int .i64 u.g, .slice ta u.l tc, .float .f64 u.wt] 42)
                                                      have hless := (less_ok us).yes k u hu
                                                      have HE1 : Hid (emp ks (k + 1) = emp ks k + if u.chs = [] then 1 else 0) := emp_step ks k u HTop.out
                                                      have hem := emp_le ks k
                                                      have HHs : Hid (hdOf ks (k + 1) = u.chs.foldl (Hd.step k) (hdOf ks k)) := hdOf_step ks k u HTop.out
                                                      have hul2 : u.chs.length = u.l := (HCh.out u (List.mem_of_getElem? HTop.out)).2
                                                      have HUL : Hid (u.chs.length = u.l) := hul2
                                                      have HU : Hid ((ixOf us).kinds[k]? = some u ∧ u ∈ us) := ⟨hu, List.mem_of_getElem? hup⟩
                                                      have HCuv : Hid (Cur w7 (wr.alloc (.cells #[.int .i64 u.g, .slice ta u.l tc, .float .f64 u.wt] 42)) cm (hdOf ks k) (hdOf ks k).n (.slice va (hdOf ks k).n vc)) := HCu.out.alloc _ 0
                                                      obtain ⟨wv, hwv⟩ : ∃ wv, wv = wr.alloc (.cells #[.int .i64 u.g, .slice ta u.l tc, .float .f64 u.wt] 42) := ⟨_, rfl⟩
                                                      obtain ⟨bx, hbxe⟩ : ∃ bx, bx = wr.heap.size := ⟨_, rfl⟩
                                                      rw [← hwv] at HCuv hbx
                                                      rw [← hbxe] at hbx
                                                      have HBX : Hid (wv.heap[bx]? = some (.cells #[.int .i64 u.g, .slice ta u.l tc, .float .f64 u.wt] 42 (0, 0))) := hbx
                                                      have HBc : Hid (∀ wz : World, wz.heap[bx]? = some (.cells #[.int .i64 u.g, .slice ta u.l tc, .float .f64 u.wt] 42 (0, 0)) → wz.cell? ⟨bx, 0, none⟩ = some (.int .i64 u.g) ∧ wz.cell? ⟨bx, 1, none⟩ = some (.slice ta u.l tc) ∧ wz.cell? ⟨bx, 2, none⟩ = some (.float .f64 u.wt)) := fun wz e =>
                                                        ⟨by rw [cell_of_row _ _ _ _ _ _ e]; rfl, by rw [cell_of_row _ _ _ _ _ _ e]; rfl, by rw [cell_of_row _ _ _ _ _ _ e]; rfl⟩
                                                      obtain ⟨b0, b1, b2⟩ := HBc.out wv hbx
                                                      have HChw : Hid (∀ wz : World, Below w7.heap.size w7 wz → ChRow wz ta u.l u.chs) := fun wz hb => by
                                                        obtain ⟨G', off', ta', tc', e', _, _, c1', _, hch'⟩ := HA7.out.bs.raw.row p u hup
                                                        cases e'
                                                        have q1' := (HCu.out.bel.cell (p := ⟨G, off + p * 3 + 1, none⟩) (World.block_lt_of_cell? w7 _ c1')).trans c1'
                                                        rw [q1] at q1'
                                                        cases q1'
                                                        exact hch'.kept hb
                                                      have HD29 : Hid (Calls Try.prog 29 #[.pointer (some ⟨b, 0, none⟩), .int .i64 u.g] wv fun e w' => e = .returned (.tuple #[.int .i32 (((ixOf us).less u.g).getD 0), .bool ((ixOf us).less u.g).isSome]) ∧ w' = wv) := by
                                                        obtain ⟨wa, J⟩ := (HA7.out.below HCuv.out.bel).bs.ix
                                                        exact J.letterless u.g
                                                      clear ha hu hup hbx hch hPk hGl HCu
                                                      go_upto_region 91 with fail
                                                      rw [← hwv, ← hbxe]
                                                      clear hwv hbxe hst q0 q1 q2 x0
                                                      by_cases hl0 : u.l = 0
                                                      · as_aux_lemma =>
                                                          have hce : u.chs = [] := List.eq_nil_of_length_eq_zero (by rw [HUL.out]; exact hl0)
                                                          rw [hless, if_pos hce] at HD29
                                                          have HD : Hid (Calls Try.prog 29 #[.pointer (some ⟨b, 0, none⟩), .int .i64 u.g] wv fun e w' => e = .returned (.tuple #[.int .i32 (k : Int), .bool true]) ∧ w' = wv) := HD29.out
                                                          have HE2 : Hid (emp ks (k + 1) = emp ks k + 1) := by show _ = _; rw [HE1.out, if_pos hce]
                                                          have HCn : Hid (Cur w7 wv cm (hdOf ks (k + 1)) (hdOf ks k).n (.slice va (hdOf ks k).n vc)) := by rw [HHs.out, hce]; exact HCuv.out
                                                          have HNe : Hid ((hdOf ks (k + 1)).n = (hdOf ks k).n) := by show _ = _; rw [HHs.out, hce]; rfl
                                                          have i5 : IntKind.i64.wrap (k : Int) = k := by rw [IntKind.wrap_i64]; omega
                                                          have hkk : ((k : Int) != (k : Int)) = false := by simp
                                                          clear HD29 hless HCuv hul2 HHs HE1
                                                          go_wp2_with fail
                                                          refine HD.out.mono ?_
                                                          rintro e w' ⟨rfl, hw⟩
                                                          obtain rfl := hw.symm
                                                          go_wp2
                                                          refine wp_loop_rounds 1 ?_
                                                          rw [rounds_succ]
                                                          go_wp2
                                                          refine ⟨⟨k + 1, by omega, by go_num, by rw [HE2.out]; go_num, va, vc, by rw [HNe.out], ?_⟩, by simp [intOf]; omega⟩
                                                          rw [HNe.out]; exact HCn
                                                      · as_aux_lemma =>
                                                          have hce : u.chs ≠ [] := fun e => hl0 (by rw [← HUL.out, e]; rfl)
                                                          have hl0b : ((u.l : Int) == 0) = false := by simp [hl0]
                                                          rw [hless, if_neg hce] at HD29
                                                          have HD : Hid (Calls Try.prog 29 #[.pointer (some ⟨b, 0, none⟩), .int .i64 u.g] wv fun e w' => e = .returned (.tuple #[.int .i32 0, .bool false]) ∧ w' = wv) := HD29.out
                                                          have HE2 : Hid (emp ks (k + 1) = emp ks k) := by show _ = _; rw [HE1.out, if_neg hce]; rfl
                                                          have HC12 : Hid (Cur w7 wv cm (hdOf ks k) (hdOf ks k).n (.slice va (hdOf ks k).n vc)) := HCuv.out
                                                          obtain ⟨cb, co, hta, hcb, _⟩ := (HChw.out wv HCuv.out.bel).2 (by omega)
                                                          subst hta
                                                          have hnk := HNum.out k (by omega)
                                                          clear HD29 hless HCuv hul2 HE1 hce hcb
                                                          go_wp2_with fail
                                                          refine HD.out.mono ?_
                                                          rintro e w' ⟨rfl, hw⟩
                                                          obtain rfl := hw.symm
                                                          clear HD
                                                          go_wp2
                                                          try rw [hl0b]
                                                          clear hl0b
                                                          go_loopw [38, 44] (fun v i wr => ∃ (c : Nat) (hd : Hd) (N : Nat) (va : Option Addr) (vc : Nat), c ≤ u.l ∧ Hid (hd = (u.chs.take c).foldl (Hd.step k) (hdOf ks k)) ∧ Hid (N = hd.n) ∧ i = .int .i64 c ∧ v = .slice va N vc ∧ Hid (Cur w7 wr cm hd N (.slice va N vc)) ∧ Hid (wr.heap[bx]? = some (.cells #[.int .i64 u.g, .slice (some ⟨cb, co, none⟩) u.l tc, .float .f64 u.wt] 42 (0, 0)))) (fun _ i _ => u.l - (intOf i).toNat)
                                                          case atStart => exact ⟨0, hdOf ks k, (hdOf ks k).n, va, vc, Nat.zero_le _, rfl, rfl, rfl, rfl, HC12, HBX⟩
                                                          case round => as_aux_lemma =>
                                                            obtain ⟨c, hd, N, va, vc, hc, HHD, HNE, rfl, rfl, HCx, HBx⟩ := hrel
                                                            clear HC12 HBX b0 b1 b2
                                                            obtain ⟨wc, rfl⟩ : ∃ wc, wc = wr := ⟨_, rfl⟩
                                                            obtain ⟨b0, b1, b2⟩ := HBc.out wc HBx.out
                                                            by_cases hcl : c < u.l
                                                            · obtain ⟨⟨r, n', x⟩, hcv⟩ : ∃ ch, u.chs[c]? = some ch := ⟨_, List.getElem?_eq_getElem (by rw [HUL.out]; exact hcl)⟩
                                                              have HCV : Hid (u.chs[c]? = some (r, n', x)) := hcv
                                                              have hho := hold_at us k u HU.out.1 c r n' x hcv
                                                              rw [← HKS.out.1] at hho
                                                              have hnb : N ≤ k * 65536 + c := by
                                                                have h1 := hd_num_le k (u.chs.take c) (hdOf ks k)
                                                                have h2 : (u.chs.take c).length ≤ c := by simp; omega
                                                                rw [← HHD.out, ← HNE.out] at h1
                                                                omega
                                                              rw [← HHD.out] at hho
                                                              have HFold : Hid ((u.chs.take (c + 1)).foldl (Hd.step k) (hdOf ks k) = hd.step k (r, n', x)) := hho.2
                                                              obtain ⟨L, hLe⟩ : ∃ L, L = (hd.h r).length := ⟨_, rfl⟩
                                                              obtain ⟨LL, hLLe⟩ : ∃ LL, LL = ((ixOf us).hd.h r).length := ⟨_, rfl⟩
                                                              have hho1 := hho.1
                                                              rw [← hLe] at hho1
                                                              have HLL : Hid (LL = ((ixOf us).hd.h r).length ∧ ((ixOf us).hd.h r)[L]? = some ((k : Int), n')) := ⟨hLLe, hho1⟩
                                                              have hLlt : L < LL := by rw [hLLe]; exact (List.getElem?_eq_some_iff.1 hho1).1
                                                              have hLLb : LL ≤ 2147483648 := by
                                                                have h1 := ix_len us r (fun t ht => by rw [(HA7.out.bs.ch t ht).1]; exact HL.out t ht)
                                                                rw [HN.out] at h1
                                                                omega
                                                              have HLen : Hid (L = (hd.h r).length) := hLe
                                                              obtain ⟨_, _, ee, _, hcc⟩ := (HChw.out wc HCx.out.bel).2 (by omega)
                                                              cases ee
                                                              obtain ⟨d0, d1, d2⟩ := hcc c r n' x hcv
                                                              have hlk := HCx.out.look r
                                                              rw [← hLe] at hlk
                                                              have i5 : IntKind.i64.wrap (k : Int) = k := by rw [IntKind.wrap_i64]; omega
                                                              by_cases hseen : hd.h r = []
                                                              · as_aux_lemma =>
                                                                  have hds : decide (hd.h r ≠ []) = false := by simp [hseen]
                                                                  rw [hds] at hlk
                                                                  have HNn : Hid (N + 1 = (hd.step k (r, n', x)).n) := by
                                                                    show _ = (if hd.h r = [] then hd.n + 1 else hd.n)
                                                                    rw [if_pos hseen, HNE.out]
                                                                  obtain ⟨i0, hi, hz0, hz1, hz2⟩ := info21'
                                                                  obtain ⟨rs, hrs⟩ := HCx.out.rows
                                                                  have HOWN : Hid ((wc.alloc (.cells #[.int .i32 r] 21)).ownsRow w7.heap.size 21 1 (.slice va N vc) N (rs.map (.int .i32))) := hrs.alloc _
                                                                  have HCa : Hid (Cur w7 (wc.alloc (.cells #[.int .i32 r] 21)) cm hd N (.slice va N vc)) := HCx.out.alloc _ 0
                                                                  have HNEW : Hid ((wc.alloc (.cells #[.int .i32 r] 21)).heap[wc.heap.size]? = some (.cells #[.int .i32 r] 21 (0, 0))) := heap_alloc_new wc _
                                                                  have HBASE : Hid (w7.heap.size ≤ (wc.alloc (.cells #[.int .i32 r] 21)).heap.size) := HCa.out.bel.size
                                                                  have HBa : Hid ((wc.alloc (.cells #[.int .i32 r] 21)).heap[bx]? = some (.cells #[.int .i64 u.g, .slice (some ⟨cb, co, none⟩) u.l tc, .float .f64 u.wt] 42 (0, 0))) := (Below.heap_alloc _ _ _ (Array.getElem?_eq_some_iff.1 HBx.out).1).trans HBx.out
                                                                  clear hho hho1 hLe hLLe hcv hcc hds hrs HCx HBx hseen
                                                                  go_wp2_with (first | (at_builtin; refine wpList_append_lies _ rfl (.tmp 434) (.tmp 436) 30 rfl w7.heap.size 21 i0 _ 1 4 Try.underlying30 hi hz0 hz1 hz2 rfl (by decide) (.slice va N vc) N (rs.map (.int .i32)) rfl HOWN.out ⟨wc.heap.size, 0, none⟩ 1 1 [.int .i32 r] rfl rfl (fun j v hv => World.news_of_block HNEW.out j v hv) (by simp [Value.oneCell']) (by omega) (by unfold maxLen; omega) (by omega) HBASE.out _ rfl ?_; intro gr capr wg hown hgrow hat hltg; have HCx : Hid (Cur w7 wg cm hd (N + 1) (.slice (some ⟨gr, 0, none⟩) (N + 1) capr)) := HCa.out.app HOWN.out hown hgrow; have HBx : Hid (wg.heap[bx]? = some (.cells #[.int .i64 u.g, .slice (some ⟨cb, co, none⟩) u.l tc, .float .f64 u.wt] 42 (0, 0))) := (hgrow.block bx (Array.getElem?_eq_some_iff.1 HBa.out).1 (fun e => (own_ty HOWN.out e.symm).ne ⟨_, _, HBa.out⟩ (by decide) rfl)).trans HBa.out; clear hown hgrow hat) | fail)
                                                                  obtain ⟨wa, J⟩ := (HA7.out.below HCx.out.bel).bs.ix
                                                                  have HD32 : Hid (Calls Try.prog 32 #[.pointer (some ⟨b, 0, none⟩), .int .i32 r] wg fun e w' => e = .returned (.int .i64 (LL : Nat)) ∧ w' = wg) := by rw [HLL.out.1]; exact J.hlen r
                                                                  have HD33 : Hid (Calls Try.prog 33 #[.pointer (some ⟨b, 0, none⟩), .int .i32 r, .int .i64 (L : Nat)] wg fun e w' => e = .returned (.tuple #[.int .i32 (k : Int), .int .i32 n']) ∧ ∃ o, w' = (wg.alloc o).drew) := J.holding r HLL.out.2
                                                                  clear J
                                                                  go_wp2_with fail
                                                                  refine HD32.out.mono ?_
                                                                  rintro e w' ⟨rfl, hw⟩
                                                                  obtain rfl := hw.symm
                                                                  go_wp2_with fail
                                                                  refine HD33.out.mono ?_
                                                                  rintro e w8 ⟨rfl, o, hw⟩
                                                                  have HC8 : Hid (Cur w7 w8 cm hd (N + 1) (.slice (some ⟨gr, 0, none⟩) (N + 1) capr)) := by rw [hw]; exact HCx.out.alloc o 1
                                                                  have hb8 : w8.heap[bx]? = some (.cells #[.int .i64 u.g, .slice (some ⟨cb, co, none⟩) u.l tc, .float .f64 u.wt] 42 (0, 0)) := by rw [hw]; exact (Below.heap_alloc _ _ _ (Array.getElem?_eq_some_iff.1 HBx.out).1).trans HBx.out
                                                                  obtain ⟨b0', b1', b2'⟩ := HBc.out w8 hb8
                                                                  obtain ⟨_, _, e8, _, hcc8⟩ := (HChw.out w8 HC8.out.bel).2 (by omega)
                                                                  cases e8
                                                                  obtain ⟨d0', d1', d2'⟩ := hcc8 c r n' x HCV.out
                                                                  obtain ⟨w9, hmu, hC9, hbut⟩ := HC8.out.store k r n' x
                                                                  rw [← HLen.out] at hmu
                                                                  have HC9 : Hid (Cur w7 w9 cm (hd.step k (r, n', x)) (N + 1) (.slice (some ⟨gr, 0, none⟩) (N + 1) capr)) := hC9
                                                                  have HB9 : Hid (w9.heap[bx]? = some (.cells #[.int .i64 u.g, .slice (some ⟨cb, co, none⟩) u.l tc, .float .f64 u.wt] 42 (0, 0))) := (hbut.block bx (Ty.ne_map (e := 42) ⟨_, _, hb8⟩ HC8.out.mp)).trans hb8
                                                                  have hy1 : ((k : Int) != (k : Int)) = false := by simp
                                                                  have hy2 : (n' != n') = false := by simp
                                                                  clear hw HD32 HD33 hcc8 hbut hC9 hb8 HCx HBx HC8
                                                                  clear hlk b0 b1 b2 d0 d1 d2 hnb hnk hLlt HLL HCV HBc HChw HA7 HU HPl HKS HK
                                                                  go_wp2
                                                                  go_roundw
                                                                  case rel => exact ⟨c + 1, hd.step k (r, n', x), N + 1, (some ⟨gr, 0, none⟩), capr, by omega, HFold.out.symm, HNn, by go_num, rfl, HC9, HB9⟩
                                                                  case measure => simp [intOf]; omega
                                                              · as_aux_lemma =>
                                                                  have hds : decide (hd.h r ≠ []) = true := by simp [hseen]
                                                                  rw [hds] at hlk
                                                                  have HNn : Hid (N = (hd.step k (r, n', x)).n) := by
                                                                    show _ = (if hd.h r = [] then hd.n + 1 else hd.n)
                                                                    rw [if_neg hseen, HNE.out]
                                                                  clear hho hho1 hLe hLLe hcv hcc hds hseen
                                                                  obtain ⟨wa, J⟩ := (HA7.out.below HCx.out.bel).bs.ix
                                                                  have HD32 : Hid (Calls Try.prog 32 #[.pointer (some ⟨b, 0, none⟩), .int .i32 r] wc fun e w' => e = .returned (.int .i64 (LL : Nat)) ∧ w' = wc) := by rw [HLL.out.1]; exact J.hlen r
                                                                  have HD33 : Hid (Calls Try.prog 33 #[.pointer (some ⟨b, 0, none⟩), .int .i32 r, .int .i64 (L : Nat)] wc fun e w' => e = .returned (.tuple #[.int .i32 (k : Int), .int .i32 n']) ∧ ∃ o, w' = (wc.alloc o).drew) := J.holding r HLL.out.2
                                                                  clear J
                                                                  go_wp2_with fail
                                                                  refine HD32.out.mono ?_
                                                                  rintro e w' ⟨rfl, hw⟩
                                                                  obtain rfl := hw.symm
                                                                  go_wp2_with fail
                                                                  refine HD33.out.mono ?_
                                                                  rintro e w8 ⟨rfl, o, hw⟩
                                                                  have HC8 : Hid (Cur w7 w8 cm hd N (.slice va N vc)) := by rw [hw]; exact HCx.out.alloc o 1
                                                                  have hb8 : w8.heap[bx]? = some (.cells #[.int .i64 u.g, .slice (some ⟨cb, co, none⟩) u.l tc, .float .f64 u.wt] 42 (0, 0)) := by rw [hw]; exact (Below.heap_alloc _ _ _ (Array.getElem?_eq_some_iff.1 HBx.out).1).trans HBx.out
                                                                  obtain ⟨b0', b1', b2'⟩ := HBc.out w8 hb8
                                                                  obtain ⟨_, _, e8, _, hcc8⟩ := (HChw.out w8 HC8.out.bel).2 (by omega)
                                                                  cases e8
                                                                  obtain ⟨d0', d1', d2'⟩ := hcc8 c r n' x HCV.out
                                                                  obtain ⟨w9, hmu, hC9, hbut⟩ := HC8.out.store k r n' x
                                                                  rw [← HLen.out] at hmu
                                                                  have HC9 : Hid (Cur w7 w9 cm (hd.step k (r, n', x)) N (.slice va N vc)) := hC9
                                                                  have HB9 : Hid (w9.heap[bx]? = some (.cells #[.int .i64 u.g, .slice (some ⟨cb, co, none⟩) u.l tc, .float .f64 u.wt] 42 (0, 0))) := (hbut.block bx (Ty.ne_map (e := 42) ⟨_, _, hb8⟩ HC8.out.mp)).trans hb8
                                                                  have hy1 : ((k : Int) != (k : Int)) = false := by simp
                                                                  have hy2 : (n' != n') = false := by simp
                                                                  clear hw HD32 HD33 hcc8 hbut hC9 hb8 HCx HBx HC8
                                                                  clear hlk b0 b1 b2 d0 d1 d2 hnb hnk hLlt HLL HCV HBc HChw HA7 HU HPl HKS HK
                                                                  go_wp2
                                                                  go_roundw
                                                                  case rel => exact ⟨c + 1, hd.step k (r, n', x), N, va, vc, by omega, HFold.out.symm, HNn, by go_num, rfl, HC9, HB9⟩
                                                                  case measure => simp [intOf]; omega
                                                            · as_aux_lemma =>
                                                                obtain rfl : u.l = c := by omega
                                                                have hfu : hd = hdOf ks (k + 1) := by rw [HHD.out, HHs.out, List.take_of_length_le (by rw [HUL.out]; exact Nat.le_refl _)]
                                                                have HNx : Hid (N = (hdOf ks (k + 1)).n) := by rw [← hfu]; exact HNE.out
                                                                have HCy : Hid (Cur w7 wc cm (hdOf ks (k + 1)) (hdOf ks (k + 1)).n (.slice va (hdOf ks (k + 1)).n vc)) := by rw [← hfu, ← show N = hd.n from HNE.out]; exact HCx
                                                                clear hfu
                                                                go_wp2
                                                                refine ⟨⟨k + 1, by omega, by go_num, by rw [HE2.out], va, vc, by rw [HNx.out], HCy⟩, by simp [intOf]; omega⟩
                                                  · as_aux_lemma =>
                                                      obtain rfl : K = k := by omega
                                                      have hall : hdOf ks K = (ixOf us).hd := by
                                                        have := hd_all us
                                                        rw [← HKS.out.1, HKS.out.2] at this
                                                        exact this.symm
                                                      have hless : emp ks K = (ixOf us).nless := by
                                                        rw [(less_ok us).num, ← HKS.out.1]
                                                        unfold emp
                                                        rw [List.take_of_length_le (by rw [HKS.out.2]; exact Nat.le_refl _)]
                                                      have hnk := HNum.out K (Nat.le_refl _)
                                                      obtain ⟨nr, hnr⟩ : ∃ nr, nr = (hdOf ks K).n := ⟨_, rfl⟩
                                                      obtain ⟨em, hem⟩ : ∃ em, em = emp ks K := ⟨_, rfl⟩
                                                      rw [← hnr] at HCu hnk
                                                      rw [← hnr, ← hem]
                                                      rw [hall] at HCu hnr
                                                      rw [hless] at hem
                                                      obtain ⟨w9, rfl⟩ : ∃ w9, w9 = wr := ⟨_, rfl⟩
                                                      obtain ⟨wa, J⟩ := (HA7.out.below HCu.out.bel).bs.ix
                                                      have C1 := J.runes
                                                      have C2 := J.lessCount
                                                      rw [← hnr] at C1
                                                      rw [← hem] at C2
                                                      have HC1 : Hid (Calls Try.prog 24 #[.pointer (some ⟨b, 0, none⟩)] w9 fun e w' => e = .returned (.int .i64 (nr : Nat)) ∧ w' = w9) := C1
                                                      have HC2 : Hid (Calls Try.prog 25 #[.pointer (some ⟨b, 0, none⟩)] w9 fun e w' => e = .returned (.int .i64 (em : Nat)) ∧ w' = w9) := C2
                                                      have hy1 : ((nr : Int) != (nr : Int)) = false := by simp
                                                      have hy2 : ((em : Int) != (em : Int)) = false := by simp
                                                      clear J C1 C2 hnr hem hall hless hk hkl HCh HNum
                                                      go_wp2_with fail
                                                      refine HC1.out.mono ?_
                                                      rintro e w' ⟨rfl, hw⟩
                                                      obtain rfl := hw.symm
                                                      go_wp2_with fail
                                                      refine HC2.out.mono ?_
                                                      rintro e w' ⟨rfl, hw⟩
                                                      obtain rfl := hw.symm
                                                      clear HC1 HC2
                                                      go_wp2
                                                      go_loopw [50] (fun i wr => ∃ q : Nat, q ≤ nr ∧ i = .int .i64 q ∧ Hid (Cur w7 wr cm (ixOf us).hd nr (.slice va nr vc))) (fun i _ => nr - (intOf i).toNat)
                                                      case atStart => exact ⟨0, Nat.zero_le _, rfl, HCu⟩
                                                      case round => as_aux_lemma =>
                                                        obtain ⟨q, hq, rfl, HCq⟩ := hrel
                                                        clear HCu
                                                        by_cases hql : q < nr
                                                        · obtain ⟨wq, rfl⟩ : ∃ wq, wq = wr := ⟨_, rfl⟩
                                                          obtain ⟨rs, hrs⟩ := HCq.out.rows
                                                          have hrl : rs.length = nr := by have := hrs.1; simpa using this
                                                          have hlen : q < (rs.map (Value.int .i32)).length := by rw [List.length_map, hrl]; exact hql
                                                          obtain ⟨gr, capr, e1, _, _, hcell, _, _⟩ := own_cell hrs hlen
                                                          obtain ⟨e3, e5, e4⟩ := Value.slice.inj e1
                                                          subst e3 e4
                                                          obtain ⟨x, hx⟩ : ∃ x, rs[q]? = some x := ⟨_, List.getElem?_eq_getElem (by rw [hrl]; exact hql)⟩
                                                          have x0 := hcell q (.int .i32 x) (by rw [List.getElem?_map, hx]; rfl)
                                                          have HXa : Hid (wq.drew.cell? ⟨gr, q, none⟩ = some (.int .i32 x)) := x0
                                                          have HCd : Hid (Cur w7 wq.drew cm (ixOf us).hd nr (.slice (some ⟨gr, 0, none⟩) nr vc)) := HCq.out.drewN 1
                                                          obtain ⟨LL, hLL⟩ : ∃ LL, LL = ((ixOf us).hd.h x).length := ⟨_, rfl⟩
                                                          have hlk := HCd.out.look1 x
                                                          rw [← hLL] at hlk
                                                          have HD32 : Hid (Calls Try.prog 32 #[.pointer (some ⟨b, 0, none⟩), .int .i32 x] wq.drew fun e w' => e = .returned (.int .i64 (LL : Nat)) ∧ w' = wq.drew) := by
                                                            obtain ⟨wa, J⟩ := (HA7.out.below HCd.out.bel).bs.ix
                                                            rw [hLL]; exact J.hlen x
                                                          have i0 : (0 : Int) ≤ (q : Int) := by omega
                                                          have i1 : (q : Int) < (nr : Int) := by omega
                                                          have i2 : ((LL : Int) != (LL : Int)) = false := by simp
                                                          clear hrs hrl hlen hcell hx e1 e5 hLL HCq
                                                          go_wp2
                                                          go_region_held3 (fun wz => wz.cell? ⟨gr, q, none⟩ = some (.int .i32 x))
                                                            (with_reducible exact HXa.out)
                                                            ((go_at_call 32; refine HD32.out.mono ?_; rintro e w' ⟨rfl, rfl⟩))
                                                          all_goals
                                                            go_wp2
                                                            go_roundw
                                                            case rel => exact ⟨q + 1, by omega, by go_num, HCd⟩
                                                            case measure => simp [intOf]; omega
                                                        · obtain ⟨w10, rfl⟩ : ∃ w10, w10 = wr := ⟨_, rfl⟩
                                                          have ha := HA7.out.below HCq.out.bel
                                                          obtain ⟨wa, J⟩ := ha.bs.ix
                                                          obtain ⟨gs, gu, V1, V2, C1, C2, C3⟩ := J.ends
                                                          have hcl : (ixOf us).count.length = K := by rw [HK.out.2]; exact (ok_ixOf us).len
                                                          rw [hcl] at V1 V2 C1 C2
                                                          have HC1 : Hid (Calls Try.prog 39 #[.pointer (some ⟨b, 0, none⟩)] w10 fun e w' => e = .returned (.slice (some ⟨gs, 0, none⟩) K K) ∧ w' = w10) := C1
                                                          have HC2 : Hid (Calls Try.prog 40 #[.pointer (some ⟨b, 0, none⟩)] w10 fun e w' => e = .returned (.slice (some ⟨gu, 0, none⟩) K K) ∧ w' = w10) := C2
                                                          have HC3 : Hid (Calls Try.prog 41 #[.pointer (some ⟨b, 0, none⟩)] w10 fun e w' => e = .returned (.int .i64 0) ∧ w' = w10) := C3
                                                          have HV1 : Hid (VRow w10 gs K 40 (fun _ => .float .f64 0)) := V1
                                                          have HV2 : Hid (VRow w10 gu K 21 (fun _ => .int .i32 0)) := V2
                                                          have HEnd : Hid (Below w.heap.size w w10) := ha.bs.bel
                                                          have hfn := fneq0
                                                          clear ha J V1 V2 C1 C2 C3 hcl
                                                          go_wp2_with fail
                                                          refine HC1.out.mono ?_
                                                          rintro e w' ⟨rfl, hw⟩
                                                          obtain rfl := hw.symm
                                                          go_wp2_with fail
                                                          refine HC2.out.mono ?_
                                                          rintro e w' ⟨rfl, hw⟩
                                                          obtain rfl := hw.symm
                                                          go_wp2_with fail
                                                          refine HC3.out.mono ?_
                                                          rintro e w' ⟨rfl, hw⟩
                                                          obtain rfl := hw.symm
                                                          clear HC1 HC2 HC3
                                                          go_wp2
                                                          go_loopw [53] (fun i wr => ∃ q : Nat, q ≤ K ∧ i = .int .i64 q ∧ wr = w10) (fun i _ => K - (intOf i).toNat)
                                                          case atStart => exact ⟨0, Nat.zero_le _, rfl, rfl⟩
                                                          case round => as_aux_lemma =>
                                                            obtain ⟨q, hq, rfl, hw⟩ := hrel
                                                            obtain rfl := hw.symm
                                                            by_cases hql : q < K
                                                            · have x0 := (HV1.out.cell (i := q) hql).1
                                                              have x1 := (HV2.out.cell (i := q) hql).1
                                                              go_wp2
                                                              go_roundw
                                                              case rel => exact ⟨q + 1, by omega, by go_num, by trivial⟩
                                                              case measure => simp [intOf]; omega
                                                            · go_wp2
                                                              go_ret
                                                              exact ⟨rfl, HEnd.out⟩
end Go.Proofs.Qxb6600550a.Rad
