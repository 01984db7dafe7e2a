import Derived.Test.Qxb6604044aP1
namespace Go.Proofs.Qxb6604044a.Dec
open Go.RowKit

/-- zzParseModel's first loop. -/
structure M9 (zs : List Int) (k P D : Nat) (f : Int) : Prop where
  p : P = np (zs.take k)
  d : D = nd (zs.take k)
  s : fp zs 0 (-1) = fp (zs.drop k) k f
  o : ok (zs.take k)
  f : f = -1 ∨ (0 ≤ f ∧ f < (k : Int))
theorem M9.le {zs : List Int} {k P D : Nat} {f : Int} (h : M9 zs k P D f) : P ≤ k ∧ D ≤ k := by
  have := nd_np (zs.take k)
  have h2 : (zs.take k).length ≤ k := List.length_take_le _ _
  have := h.p; have := h.d
  omega
theorem M9.digit {zs : List Int} {k P D : Nat} {f z : Int} (h : M9 zs k P D f) (hk : k < zs.length) (hz : zs.getD k 0 = z) (h1 : 48 ≤ z) (h2 : z ≤ 57) : M9 zs (k + 1) P (D + 1) f := by
  have hd := drop_cons zs k hk
  have ht := take_snoc zs k hk
  rw [hz] at hd ht
  have hz46 : z ≠ 46 := by omega
  refine ⟨by rw [ht, np_app, ← h.p]; simp [np, hz46], by rw [ht, nd_app, ← h.d]; simp [nd, hz46], by rw [h.s, hd, fp, if_neg (by omega)], ?_, ?_⟩
  · rw [ht]; intro c hcm
    rcases List.mem_append.1 hcm with hcm | hcm
    · exact h.o c hcm
    · simp at hcm; subst hcm; exact .inr ⟨h1, h2⟩
  · rcases h.f with h | h
    · exact .inl h
    · exact .inr ⟨h.1, by omega⟩
theorem M9.point {zs : List Int} {k P D : Nat} {f : Int} (h : M9 zs k P D f) (hk : k < zs.length) (hz : zs.getD k 0 = 46) : M9 zs (k + 1) (P + 1) D (if f < 0 then (k : Int) else f) := by
  have hd := drop_cons zs k hk
  have ht := take_snoc zs k hk
  rw [hz] at hd ht
  refine ⟨by rw [ht, np_app, ← h.p]; simp [np], by rw [ht, nd_app, ← h.d]; simp [nd], ?_, ?_, ?_⟩
  · rw [h.s, hd, fp]
    by_cases hf : f < 0
    · rw [if_pos ⟨rfl, hf⟩, if_pos hf]
    · rw [if_neg (by omega), if_neg hf]
  · rw [ht]; intro c hcm
    rcases List.mem_append.1 hcm with hcm | hcm
    · exact h.o c hcm
    · simp at hcm; subst hcm; exact .inl rfl
  · have := h.f
    split <;> omega
theorem M9.bad {zs : List Int} {k P D : Nat} {f z : Int} (_h : M9 zs k P D f) (hk : k < zs.length) (hz : zs.getD k 0 = z) (h1 : ¬ (48 ≤ z ∧ z ≤ 57)) (h2 : z ≠ 46) : ac zs = false ∧ cf zs = 0 ∧ xp zs = 0 := by
  refine ac_no (fun hh => ?_)
  have hm : z ∈ zs := by
    rw [← hz, List.getD_eq_getElem?_getD, List.getElem?_eq_getElem hk]
    exact List.getElem_mem hk
  have := hh.1 z hm
  omega
theorem M9.fin {zs : List Int} {P D : Nat} {f : Int} (h : M9 zs zs.length P D f) : P = np zs ∧ D = nd zs ∧ f = fp zs 0 (-1) ∧ ok zs := by
  have h1 := h.p; have h2 := h.d; have h3 := h.s; have h4 := h.o
  rw [List.take_length] at h1 h2 h4
  rw [List.drop_length, fp] at h3
  exact ⟨h1, h2, h3.symm, h4⟩

/-- zzParseModel's second loop: behind the bytes from m on. -/
structure N9 (zs : List Int) (m : Nat) (co pl : Int) : Prop where
  c : co = dv (zs.drop m)
  l : pl = 10 ^ nd (zs.drop m)
theorem ok_drop {zs : List Int} (h : ok zs) (m : Nat) : ok (zs.drop m) := fun c hc => h c (List.mem_of_mem_drop hc)
theorem nd_drop_le (zs : List Int) (m : Nat) : nd (zs.drop m) ≤ nd zs := by
  have e : zs = zs.take m ++ zs.drop m := (List.take_append_drop m zs).symm
  have := nd_app (zs.take m) (zs.drop m)
  rw [← e] at this
  omega
theorem N9.point {zs : List Int} {j : Nat} {co pl : Int} (h : N9 zs (j + 1) co pl) (hk : j < zs.length) (hz : zs.getD j 0 = 46) : N9 zs j co pl := by
  have hd := drop_cons zs j hk
  rw [hz] at hd
  exact ⟨by rw [hd, dv, if_pos rfl]; exact h.c, by rw [hd, nd, if_pos rfl]; exact h.l⟩
theorem N9.digit {zs : List Int} {j : Nat} {co pl z : Int} (h : N9 zs (j + 1) co pl) (hk : j < zs.length) (hz : zs.getD j 0 = z) (h46 : z ≠ 46) : N9 zs j (co + (z - 48) * pl) (pl * 10) := by
  have hd := drop_cons zs j hk
  rw [hz] at hd
  refine ⟨?_, ?_⟩
  · rw [hd, dv, if_neg h46, h.c, h.l]; omega
  · rw [hd, nd, if_neg h46, Int.pow_succ, h.l]
theorem N9.bound {zs : List Int} {j : Nat} {co pl z : Int} (h : N9 zs (j + 1) co pl) (hk : j < zs.length) (hz : zs.getD j 0 = z) (h46 : z ≠ 46) (hok : ok zs) (hn : nd zs ≤ 18) :
    0 ≤ co ∧ co ≤ 100000000000000000 ∧ 0 ≤ pl ∧ pl ≤ 100000000000000000 ∧ 48 ≤ z ∧ z ≤ 57 ∧ 0 ≤ (z - 48) * pl ∧ (z - 48) * pl ≤ 900000000000000000 := by
  have hd := drop_cons zs j hk
  rw [hz] at hd
  have h1 := nd_drop_le zs j
  rw [hd, nd, if_neg h46] at h1
  have hb := dv_bound _ (ok_drop hok (j + 1))
  rw [← h.c, ← h.l] at hb
  have hp : (10 : Int) ^ nd (zs.drop (j + 1)) ≤ 10 ^ 17 := pow10_le (by omega)
  rw [← h.l] at hp
  have e : (10 : Int) ^ 17 = 100000000000000000 := by decide
  have hzm : z ∈ zs := by
    rw [← hz, List.getD_eq_getElem?_getD, List.getElem?_eq_getElem hk]
    exact List.getElem_mem hk
  have hz2 := hok z hzm
  have h5 : (z - 48) * pl ≤ 9 * pl := Int.mul_le_mul_of_nonneg_right (by omega) (by omega)
  have h6 : 0 ≤ (z - 48) * pl := Int.mul_nonneg (by omega) (by omega)
  omega

set_option maxHeartbeats 1600000 in
theorem model_any (s : ByteArray) (w : World) (h : s.size ≤ 1048576) :
    Calls Try.prog 9 #[.string s] w fun e w' => e = .returned (.tuple #[.int .i64 (cf (bz s)), .int .i32 (xp (bz s)), .bool (ac (bz s))]) ∧ w' = w := by
  go_enter Try.func9, Try.ntmps9
  go_wp2
  go_loop [6, 7, 8, 9] (fun a b c i => ∃ (k P D : Nat) (f : Int), k ≤ s.size ∧ i = .int .i64 k ∧ a = .int .i64 P ∧ b = .int .i64 f ∧ c = .int .i64 D ∧ Hid (M9 (bz s) k P D f)) (fun _ _ _ i => s.size - (intOf i).toNat)
  case atStart => exact ⟨0, 0, 0, -1, Nat.zero_le _, rfl, rfl, rfl, rfl, ⟨rfl, rfl, rfl, by simp [ok], .inl rfl⟩⟩
  case round =>
    obtain ⟨k, P, D, f, hk, rfl, rfl, rfl, rfl, HR⟩ := hrel
    obtain ⟨l1, l2⟩ := HR.out.le
    by_cases hlt : k < s.size
    · have HZ : Hid ((bz s).getD k 0 = (s[k].toNat : Int)) := bz_at s k hlt
      have hzl : (s[k].toNat : Int) ≤ 255 := by have := s[k].toNat_lt; omega
      by_cases h3 : (s[k].toNat : Int) = 46
      · have h46 : ((s[k].toNat : Int) == 46) = true := by simp [h3]
        have hd : decide (48 ≤ (s[k].toNat : Int)) = false := by simp [h3]
        have HP : Hid (M9 (bz s) (k + 1) (P + 1) D (if f < 0 then (k : Int) else f)) := HR.out.point (by rw [bz_len]; exact hlt) (HZ.out.trans h3)
        clear h3
        by_cases h4 : f < 0
        · have HP' : Hid (M9 (bz s) (k + 1) (P + 1) D (k : Int)) := by have := HP.out; rw [if_pos h4] at this; exact this
          clear HP
          go_wp2
          go_round
          case rel => exact ⟨k + 1, P + 1, D, (k : Int), by omega, by go_num, by go_num, rfl, rfl, HP'⟩
          case measure => simp [intOf]; omega
        · have HP' : Hid (M9 (bz s) (k + 1) (P + 1) D f) := by have := HP.out; rw [if_neg h4] at this; exact this
          clear HP
          go_wp2
          go_round
          case rel => exact ⟨k + 1, P + 1, D, f, by omega, by go_num, by go_num, rfl, rfl, HP'⟩
          case measure => simp [intOf]; omega
      · have h46 : ((s[k].toNat : Int) == 46) = false := by simpa using h3
        by_cases h1 : 48 ≤ (s[k].toNat : Int)
        · by_cases h2 : (s[k].toNat : Int) ≤ 57
          · have HP' : Hid (M9 (bz s) (k + 1) P (D + 1) f) := HR.out.digit (by rw [bz_len]; exact hlt) HZ.out h1 h2
            clear h3
            go_wp2
            go_round
            case rel => exact ⟨k + 1, P, D + 1, f, by omega, by go_num, rfl, rfl, by go_num, HP'⟩
            case measure => simp [intOf]; omega
          · have hd : decide ((s[k].toNat : Int) ≤ 57) = false := by simpa using h2
            obtain ⟨c1, c2, c3⟩ := HR.out.bad (by rw [bz_len]; exact hlt) HZ.out (by omega) h3
            have HC : Hid (ac (bz s) = false ∧ cf (bz s) = 0 ∧ xp (bz s) = 0) := ⟨c1, c2, c3⟩
            clear c1 c2 c3 h3
            go_wp2
            go_ret3
            exact ⟨ret3 HC.out.2.1.symm HC.out.2.2.symm HC.out.1.symm, rfl⟩
        · have hd : decide (48 ≤ (s[k].toNat : Int)) = false := by simpa using h1
          obtain ⟨c1, c2, c3⟩ := HR.out.bad (by rw [bz_len]; exact hlt) HZ.out (by omega) h3
          have HC : Hid (ac (bz s) = false ∧ cf (bz s) = 0 ∧ xp (bz s) = 0) := ⟨c1, c2, c3⟩
          clear c1 c2 c3 h3
          go_wp2
          go_ret3
          exact ⟨ret3 HC.out.2.1.symm HC.out.2.2.symm HC.out.1.symm, rfl⟩
    · obtain rfl : k = s.size := by omega
      have hR := HR.out
      rw [← bz_len s] at hR
      obtain ⟨f1, f2, f3, f4⟩ := hR.fin
      have hff := HR.out.f
      have HF : Hid (P = np (bz s) ∧ D = nd (bz s) ∧ f = fp (bz s) 0 (-1) ∧ ok (bz s)) := ⟨f1, f2, f3, f4⟩
      have hsum : D + P = s.size := by have := nd_np (bz s); rw [bz_len] at this; omega
      have hp1 : P = 0 ∨ (0 ≤ f ∧ f < (s.size : Int)) := by
        by_cases h0 : P = 0
        · exact .inl h0
        · have := fp_range (bz s) 0 (-1) (by omega) (by rw [← f1]; exact h0)
          rw [← f3, bz_len] at this
          exact .inr (by omega)
      have hf1 : -1 ≤ f := by omega
      have hf2 : f ≤ 1048576 := by omega
      have HS : Hid (D + P = s.size) := hsum
      clear f1 f2 f3 f4 hR hff HR hsum
      by_cases d0 : D = 0
      · have t0 : ((D : Int) == 0) = true := by simp [d0]
        obtain ⟨c1, c2, c3⟩ := ac_no (l := bz s) (fun hh => by have h1 := hh.2.1; have h2 := hh.2.2.1; have h3 := hh.2.2.2.1; have h4 := hh.2.2.2.2; (try rw [← HF.out.2.2.1, bz_len] at h4); rw [← HF.out.2.1] at h1 h2; rw [← HF.out.1] at h3 h4; omega)
        have HC : Hid (ac (bz s) = false ∧ cf (bz s) = 0 ∧ xp (bz s) = 0) := ⟨c1, c2, c3⟩
        clear c1 c2 c3
        go_wp2
        go_ret3
        exact ⟨ret3 HC.out.2.1.symm HC.out.2.2.symm HC.out.1.symm, rfl⟩
      have t0 : ((D : Int) == 0) = false := by simpa using d0
      by_cases d1 : 18 < D
      · skip
        obtain ⟨c1, c2, c3⟩ := ac_no (l := bz s) (fun hh => by have h1 := hh.2.1; have h2 := hh.2.2.1; have h3 := hh.2.2.2.1; have h4 := hh.2.2.2.2; (try rw [← HF.out.2.2.1, bz_len] at h4); rw [← HF.out.2.1] at h1 h2; rw [← HF.out.1] at h3 h4; omega)
        have HC : Hid (ac (bz s) = false ∧ cf (bz s) = 0 ∧ xp (bz s) = 0) := ⟨c1, c2, c3⟩
        clear c1 c2 c3
        go_wp2
        go_ret3
        exact ⟨ret3 HC.out.2.1.symm HC.out.2.2.symm HC.out.1.symm, rfl⟩
      have t1 : decide (18 < (D : Int)) = false := decide_eq_false (by omega)
      by_cases d2 : 1 < P
      · skip
        obtain ⟨c1, c2, c3⟩ := ac_no (l := bz s) (fun hh => by have h1 := hh.2.1; have h2 := hh.2.2.1; have h3 := hh.2.2.2.1; have h4 := hh.2.2.2.2; (try rw [← HF.out.2.2.1, bz_len] at h4); rw [← HF.out.2.1] at h1 h2; rw [← HF.out.1] at h3 h4; omega)
        have HC : Hid (ac (bz s) = false ∧ cf (bz s) = 0 ∧ xp (bz s) = 0) := ⟨c1, c2, c3⟩
        clear c1 c2 c3
        go_wp2
        go_ret3
        exact ⟨ret3 HC.out.2.1.symm HC.out.2.2.symm HC.out.1.symm, rfl⟩
      have t2 : decide (1 < (P : Int)) = false := decide_eq_false (by omega)
      by_cases d3 : P = 1
      · have t3 : ((P : Int) == 1) = true := by simp [d3]
        by_cases d4 : f = 0
        · have t4 : (f == 0) = true := by simp [d4]
          obtain ⟨c1, c2, c3⟩ := ac_no (l := bz s) (fun hh => by have h1 := hh.2.1; have h2 := hh.2.2.1; have h3 := hh.2.2.2.1; have h4 := hh.2.2.2.2; (try rw [← HF.out.2.2.1, bz_len] at h4); rw [← HF.out.2.1] at h1 h2; rw [← HF.out.1] at h3 h4; omega)
          have HC : Hid (ac (bz s) = false ∧ cf (bz s) = 0 ∧ xp (bz s) = 0) := ⟨c1, c2, c3⟩
          clear c1 c2 c3
          go_wp2
          go_ret3
          exact ⟨ret3 HC.out.2.1.symm HC.out.2.2.symm HC.out.1.symm, rfl⟩
        have t4 : (f == 0) = false := by simpa using d4
        by_cases d5 : f = (s.size : Int) - 1
        · have t5 : (f == (s.size : Int) - 1) = true := by simp [d5]
          obtain ⟨c1, c2, c3⟩ := ac_no (l := bz s) (fun hh => by have h1 := hh.2.1; have h2 := hh.2.2.1; have h3 := hh.2.2.2.1; have h4 := hh.2.2.2.2; (try rw [← HF.out.2.2.1, bz_len] at h4); rw [← HF.out.2.1] at h1 h2; rw [← HF.out.1] at h3 h4; omega)
          have HC : Hid (ac (bz s) = false ∧ cf (bz s) = 0 ∧ xp (bz s) = 0) := ⟨c1, c2, c3⟩
          clear c1 c2 c3
          go_wp2
          go_ret3
          exact ⟨ret3 HC.out.2.1.symm HC.out.2.2.symm HC.out.1.symm, rfl⟩
        have t5 : (f == (s.size : Int) - 1) = false := by simpa using d5
        have u1 : 0 ≤ f := by omega
        have u2 : f < (s.size : Int) := by omega
        have hs20 : s.size ≤ 19 := by have := HS.out; omega
        obtain ⟨c1, c2, c3⟩ := ac_yes (l := bz s) ⟨HF.out.2.2.2, by rw [← HF.out.2.1]; omega, by rw [← HF.out.2.1]; omega, by rw [← HF.out.1]; omega, by rw [← HF.out.1, ← HF.out.2.2.1, bz_len]; omega⟩
        rw [← HF.out.1, ← HF.out.2.2.1, bz_len] at c3
        rw [if_pos (by omega)] at c3
        have HC : Hid (ac (bz s) = true ∧ cf (bz s) = dv (bz s) ∧ xp (bz s) = -((s.size : Int) - 1 - f)) := ⟨c1, c2, c3⟩
        have HN : Hid (nd (bz s) ≤ 18) := by show _ ≤ _; rw [← HF.out.2.1]; omega
        clear c1 c2 c3
        go_wp2
        go_loop [11, 12, 13] (fun a b i => ∃ (m : Nat) (co pl : Int), m ≤ s.size ∧ i = .int .i64 ((m : Int) - 1) ∧ a = .int .i64 co ∧ b = .int .i64 pl ∧ Hid (N9 (bz s) m co pl)) (fun _ _ i => (intOf i + 1).toNat)
        case atStart => exact ⟨s.size, 0, 1, Nat.le_refl _, rfl, rfl, rfl, ⟨by rw [← bz_len, List.drop_length]; rfl, by rw [← bz_len, List.drop_length]; rfl⟩⟩
        case round =>
          obtain ⟨m, co, pl, hm, rfl, rfl, rfl, HQ⟩ := hrel
          by_cases hm0 : m = 0
          · subst hm0
            have hco : co = dv (bz s) := by have := HQ.out.c; rw [List.drop_zero] at this; exact this
            have HCO : Hid (cf (bz s) = co) := HC.out.2.1.trans hco.symm
            clear hco
            go_wp2
            go_ret3
            exact ⟨ret3 HCO.out.symm (by rw [HC.out.2.2]) HC.out.1.symm, rfl⟩
          · obtain ⟨j, rfl⟩ : ∃ j, m = j + 1 := ⟨m - 1, by omega⟩
            rw [show (((j + 1 : Nat) : Int) - 1) = (j : Int) by omega]
            have hj : j < s.size := by omega
            have HZ : Hid ((bz s).getD j 0 = (s[j].toNat : Int)) := bz_at s j hj
            have hzl : (s[j].toNat : Int) ≤ 255 := by have := s[j].toNat_lt; omega
            clear hm0
            by_cases h3 : (s[j].toNat : Int) = 46
            · have h46 : ((s[j].toNat : Int) == 46) = true := by simp [h3]
              have HP : Hid (N9 (bz s) j co pl) := HQ.out.point (by rw [bz_len]; exact hj) (HZ.out.trans h3)
              clear h3
              go_wp2
              go_round
              case rel => exact ⟨j, co, pl, by omega, by go_num, rfl, rfl, HP⟩
              case measure => simp [intOf]
            · have h46 : ((s[j].toNat : Int) == 46) = false := by simpa using h3
              obtain ⟨b1, b2, b3, b4, b5, b6, b7, b8⟩ := HQ.out.bound (by rw [bz_len]; exact hj) HZ.out h3 HF.out.2.2.2 HN.out
              obtain ⟨v, hv⟩ : ∃ v, ((s[j].toNat : Int) - 48) * pl = v := ⟨_, rfl⟩
              have HP := HQ.out.digit (by rw [bz_len]; exact hj) HZ.out h3
              rw [hv] at b7 b8 HP
              have HP' : Hid (N9 (bz s) j (co + v) (pl * 10)) := HP
              clear h3 HP
              go_wp2
              go_round
              case rel => exact ⟨j, co + v, pl * 10, by omega, by go_num, by go_num, by go_num, HP'⟩
              case measure => simp [intOf]
      · have t3 : ((P : Int) == 1) = false := by simp; omega
        obtain ⟨c1, c2, c3⟩ := ac_yes (l := bz s) ⟨HF.out.2.2.2, by rw [← HF.out.2.1]; omega, by rw [← HF.out.2.1]; omega, by rw [← HF.out.1]; omega, by rw [← HF.out.1, ← HF.out.2.2.1, bz_len]; omega⟩
        rw [← HF.out.1, ← HF.out.2.2.1, bz_len] at c3
        rw [if_neg (by omega)] at c3
        have HC : Hid (ac (bz s) = true ∧ cf (bz s) = dv (bz s) ∧ xp (bz s) = 0) := ⟨c1, c2, c3⟩
        have HN : Hid (nd (bz s) ≤ 18) := by show _ ≤ _; rw [← HF.out.2.1]; omega
        clear c1 c2 c3
        go_wp2
        go_loop [11, 12, 13] (fun a b i => ∃ (m : Nat) (co pl : Int), m ≤ s.size ∧ i = .int .i64 ((m : Int) - 1) ∧ a = .int .i64 co ∧ b = .int .i64 pl ∧ Hid (N9 (bz s) m co pl)) (fun _ _ i => (intOf i + 1).toNat)
        case atStart => exact ⟨s.size, 0, 1, Nat.le_refl _, rfl, rfl, rfl, ⟨by rw [← bz_len, List.drop_length]; rfl, by rw [← bz_len, List.drop_length]; rfl⟩⟩
        case round =>
          obtain ⟨m, co, pl, hm, rfl, rfl, rfl, HQ⟩ := hrel
          by_cases hm0 : m = 0
          · subst hm0
            have hco : co = dv (bz s) := by have := HQ.out.c; rw [List.drop_zero] at this; exact this
            have HCO : Hid (cf (bz s) = co) := HC.out.2.1.trans hco.symm
            clear hco
            go_wp2
            go_ret3
            exact ⟨ret3 HCO.out.symm (by rw [HC.out.2.2]) HC.out.1.symm, rfl⟩
          · obtain ⟨j, rfl⟩ : ∃ j, m = j + 1 := ⟨m - 1, by omega⟩
            rw [show (((j + 1 : Nat) : Int) - 1) = (j : Int) by omega]
            have hj : j < s.size := by omega
            have HZ : Hid ((bz s).getD j 0 = (s[j].toNat : Int)) := bz_at s j hj
            have hzl : (s[j].toNat : Int) ≤ 255 := by have := s[j].toNat_lt; omega
            clear hm0
            by_cases h3 : (s[j].toNat : Int) = 46
            · have h46 : ((s[j].toNat : Int) == 46) = true := by simp [h3]
              have HP : Hid (N9 (bz s) j co pl) := HQ.out.point (by rw [bz_len]; exact hj) (HZ.out.trans h3)
              clear h3
              go_wp2
              go_round
              case rel => exact ⟨j, co, pl, by omega, by go_num, rfl, rfl, HP⟩
              case measure => simp [intOf]
            · have h46 : ((s[j].toNat : Int) == 46) = false := by simpa using h3
              obtain ⟨b1, b2, b3, b4, b5, b6, b7, b8⟩ := HQ.out.bound (by rw [bz_len]; exact hj) HZ.out h3 HF.out.2.2.2 HN.out
              obtain ⟨v, hv⟩ : ∃ v, ((s[j].toNat : Int) - 48) * pl = v := ⟨_, rfl⟩
              have HP := HQ.out.digit (by rw [bz_len]; exact hj) HZ.out h3
              rw [hv] at b7 b8 HP
              have HP' : Hid (N9 (bz s) j (co + v) (pl * 10)) := HP
              clear h3 HP
              go_wp2
              go_round
              case rel => exact ⟨j, co + v, pl * 10, by omega, by go_num, by go_num, by go_num, HP'⟩
              case measure => simp [intOf]

theorem zzb_no (s : ByteArray) (w : World) (h : 1048576 < s.size) (hm : s.size ≤ 9223372036854775807) : Calls Try.prog 7 #[.string s] w fun e w' => e = .returned (.bool false) ∧ w' = w := by
  go_enter Try.func7, Try.ntmps7
  go_wp2
  go_ret
  exact ⟨rfl, rfl⟩
theorem zzb_yes (s : ByteArray) (w : World) (h : s.size ≤ 1048576) : Calls Try.prog 7 #[.string s] w fun e w' => e = .returned (.bool true) ∧ w' = w := by
  go_enter Try.func7, Try.ntmps7
  go_wp2
  go_ret
  exact ⟨rfl, rfl⟩

set_option maxHeartbeats 800000 in
theorem law_any (s : ByteArray) (w : World) (hm : s.size ≤ 9223372036854775807) : Calls Try.prog 3 #[.string s] w fun e w' => e = .returned (.bool true) ∧ w' = w := by
  by_cases h : 1048576 < s.size
  · go_enter Try.func3, Try.ntmps3
    go_wp2_with fail
    refine (zzb_no s w h hm).mono ?_
    rintro e w' ⟨rfl, rfl⟩
    go_wp2
    go_ret
    exact ⟨rfl, rfl⟩
  · have h' : s.size ≤ 1048576 := by omega
    go_enter Try.func3, Try.ntmps3
    go_wp2_with fail
    refine (zzb_yes s w h').mono ?_
    rintro e w' ⟨rfl, rfl⟩
    go_wp2_with fail
    refine (parse_any s w' h').mono ?_
    rintro e w1 ⟨rfl, rfl⟩
    go_wp2_with fail
    refine (model_any s w1 h').mono ?_
    rintro e w2 ⟨rfl, rfl⟩
    generalize cf (bz s) = a
    generalize xp (bz s) = b
    generalize ac (bz s) = c
    have t1 : (c == c) = true := by simp
    have t2 : (a == a) = true := by simp
    have t3 : (b == b) = true := by simp
    go_wp2
    go_ret
    exact ⟨rfl, rfl⟩
end Go.Proofs.Qxb6604044a.Dec
