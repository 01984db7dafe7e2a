import Derived.Test.Qxb6600550aK0
namespace Go.Proofs.Qxb6600550a.Rad
open Go.RowKit Go.Proofs.Qxb6600550a.Idx

set_option maxRecDepth 100000 in
set_option maxHeartbeats 600000 in
/-- The bound on the lengths answers something. -/
theorem zzb15_any (a : Option Addr) (n c : Nat) (ts : List Ct) (w : World) (hm : n ≤ 9223372036854775807) (h : CtSl w a n ts) (hL : ∀ t ∈ ts, t.l ≤ 9223372036854775807) :
    Calls Try.prog 15 #[.slice a n c] w fun e w' => ∃ r, e = .returned (.bool r) ∧ w' = w := by
  have HC : Hid (CtSl w a n ts) := h
  have HL : Hid (∀ t ∈ ts, t.l ≤ 9223372036854775807) := hL
  clear h hL
  by_cases hn : 1048576 < n
  · go_enter Try.func15, Try.ntmps15
    go_wp2
    go_ret
    exact ⟨_, rfl, rfl⟩
  · go_enter Try.func15, Try.ntmps15
    go_wp2
    go_loopw [3, 4] (fun s i wr => ∃ q S : Nat, q ≤ n ∧ S ≤ 1048576 ∧ s = .int .i64 S ∧ i = .int .i64 q ∧ wr = w) (fun _ i _ => n - (intOf i).toNat)
    case atStart => exact ⟨0, n, Nat.zero_le _, by omega, by simp, rfl, rfl⟩
    case round =>
      obtain ⟨q, S, hq, hS, rfl, rfl, rfl⟩ := hrel
      by_cases hlt : q < n
      · obtain ⟨G, off, rfl, hr⟩ := HC.out.2 (by omega)
        obtain ⟨t, ht⟩ : ∃ t, ts[q]? = some t := ⟨_, List.getElem?_eq_getElem (by rw [hr.len]; exact hlt)⟩
        have h1 := (hr.cell q t ht).2.1
        have h2 := HL.out t (List.mem_of_getElem? ht)
        clear hr
        by_cases hbig : 1048576 < t.l
        · go_wp2
          go_ret
          exact ⟨_, rfl, rfl⟩
        · by_cases hsum : 1048576 < S + t.l
          · go_wp2
            go_ret
            exact ⟨_, rfl, rfl⟩
          · go_wp2
            go_roundw
            case rel => exact ⟨q + 1, S + t.l, by omega, by omega, by go_num, by go_num, by trivial⟩
            case measure => simp [intOf]; omega
      · go_wp2
        go_ret
        exact ⟨_, rfl, rfl⟩

set_option maxRecDepth 100000 in
set_option maxHeartbeats 16000000 in
theorem law5 (hga : ∀ (a : Option Addr) (n cap b : Nat) (us : List Ct) (w : World), n ≤ 32768 → Bs w w a b n us → (∀ u ∈ us, 0 ≤ u.g ∧ u.g ≤ 65536) → (∀ u ∈ us, u.l ≤ 65536) → Calls Try.prog 18 #[.slice a n cap, .pointer (some ⟨b, 0, none⟩)] w fun e w' => e = .returned (.bool true) ∧ Below w.heap.size w w') (a : Option Addr) (n cap : Nat) (ts : List Ct) (w : World) (hm : n ≤ 9223372036854775807) (h : CtSl w a n ts) (hL : ∀ t ∈ ts, t.l ≤ 9223372036854775807) :
    Calls Try.prog 5 #[.slice a n cap] w fun e w' => e = .returned (.bool true) ∧ Below w.heap.size w w' := by
  have HZ : Hid (Calls Try.prog 15 #[.slice a n cap] w fun e w' => ∃ r, e = .returned (.bool r) ∧ w' = w) := zzb15_any a n cap ts w hm h hL
  have HC : Hid (CtSl w a n ts) := h
  have HL : Hid (∀ t ∈ ts, t.l ≤ 9223372036854775807) := hL
  clear h hL
  have HGA : Hid (∀ (a : Option Addr) (n cap b : Nat) (us : List Ct) (w : World), n ≤ 32768 → Bs w w a b n us → (∀ u ∈ us, 0 ≤ u.g ∧ u.g ≤ 65536) → (∀ u ∈ us, u.l ≤ 65536) → Calls Try.prog 18 #[.slice a n cap, .pointer (some ⟨b, 0, none⟩)] w fun e w' => e = .returned (.bool true) ∧ Below w.heap.size w w') := hga
  clear hga
  go_enter Try.func5, Try.ntmps5
  go_wp2_with fail
  refine HZ.out.mono ?_
  rintro e w' ⟨r, rfl, rfl⟩
  clear HZ
  cases r with
  | false =>
    go_wp2
    go_ret
    exact ⟨rfl, Below.refl _ _⟩
  | true =>
    by_cases hn : 32768 < n
    · go_wp2
      go_ret
      exact ⟨rfl, Below.refl _ _⟩
    · go_wp2
      go_loopw [3, 4] (fun s i wr => ∃ q S : Nat, q ≤ n ∧ S ≤ 1048576 ∧ s = .int .i64 S ∧ i = .int .i64 q ∧ wr = w' ∧ Hid (∀ t ∈ ts.take q, t.l ≤ 65536)) (fun _ i _ => n - (intOf i).toNat)
      case atStart => exact ⟨0, 0, Nat.zero_le _, by omega, rfl, rfl, rfl, by intro t ht; simp at ht⟩
      case round =>
        obtain ⟨q, S, hq, hS, rfl, rfl, rfl, HT⟩ := hrel
        by_cases hlt : q < n
        · obtain ⟨G, off, rfl, hr⟩ := HC.out.2 (by omega)
          obtain ⟨t, ht⟩ : ∃ t, ts[q]? = some t := ⟨_, List.getElem?_eq_getElem (by rw [hr.len]; exact hlt)⟩
          have h1 := (hr.cell q t ht).2.1
          have h2 := HL.out t (List.mem_of_getElem? ht)
          have HTn : Hid (t.l ≤ 65536 → ∀ u ∈ ts.take (q + 1), u.l ≤ 65536) := fun hl u hu => by
            have hjl : q < ts.length := (List.getElem?_eq_some_iff.1 ht).1
            have hge : ts[q] = t := by rw [List.getElem?_eq_getElem hjl] at ht; exact Option.some.inj ht
            rw [List.take_succ_eq_append_getElem hjl, hge] at hu
            rcases List.mem_append.1 hu with hu | hu
            · exact HT.out u hu
            · simp at hu; subst hu; exact hl
          clear hr
          by_cases hbig : 65536 < t.l
          · go_wp2
            go_ret
            exact ⟨rfl, Below.refl _ _⟩
          · by_cases hsum : 1048576 < S + (40 + 16 * t.l)
            · go_wp2
              go_ret
              exact ⟨rfl, Below.refl _ _⟩
            · go_wp2
              go_roundw
              case rel => exact ⟨q + 1, S + (40 + 16 * t.l), by omega, by omega, by go_num, by go_num, by trivial, HTn.out (by omega)⟩
              case measure => simp [intOf]; omega
        · obtain rfl : n = q := by omega
          have HL2 : Hid (∀ t ∈ ts, t.l ≤ 65536) := fun t ht => HT.out t (by rw [List.take_of_length_le (by rw [HC.out.1]; exact Nat.le_refl _)]; exact ht)
          clear HT hlt hq
          obtain ⟨w0, rfl⟩ : ∃ w0, w0 = wr := ⟨_, rfl⟩
          go_wp2
          go_loopw [5] (fun i wr => ∃ q : Nat, q ≤ n ∧ i = .int .i64 q ∧ wr = w0 ∧ Hid (∀ t ∈ ts.take q, 0 ≤ t.g ∧ t.g ≤ 65536)) (fun i _ => n - (intOf i).toNat)
          case atStart => exact ⟨0, Nat.zero_le _, rfl, rfl, by intro t ht; simp at ht⟩
          case round =>
            obtain ⟨q, hq, rfl, rfl, HT⟩ := hrel
            by_cases hlt : q < n
            · obtain ⟨G, off, rfl, hr⟩ := HC.out.2 (by omega)
              obtain ⟨t, ht⟩ : ∃ t, ts[q]? = some t := ⟨_, List.getElem?_eq_getElem (by rw [hr.len]; exact hlt)⟩
              have h1 := (hr.cell q t ht).1
              have HTn : Hid (0 ≤ t.g ∧ t.g ≤ 65536 → ∀ u ∈ ts.take (q + 1), 0 ≤ u.g ∧ u.g ≤ 65536) := fun hl u hu => by
                have hjl : q < ts.length := (List.getElem?_eq_some_iff.1 ht).1
                have hge : ts[q] = t := by rw [List.getElem?_eq_getElem hjl] at ht; exact Option.some.inj ht
                rw [List.take_succ_eq_append_getElem hjl, hge] at hu
                rcases List.mem_append.1 hu with hu | hu
                · exact HT.out u hu
                · simp at hu; subst hu; exact hl
              clear hr
              by_cases hb1 : t.g < 0
              · go_wp2
                go_ret
                exact ⟨rfl, Below.refl _ _⟩
              · by_cases hb2 : 65536 < t.g
                · go_wp2
                  go_ret
                  exact ⟨rfl, Below.refl _ _⟩
                · go_wp2
                  go_roundw
                  case rel => exact ⟨q + 1, by omega, by go_num, by trivial, HTn.out ⟨by omega, by omega⟩⟩
                  case measure => simp [intOf]; omega
            · obtain rfl : n = q := by omega
              have HG : Hid (∀ t ∈ ts, 0 ≤ t.g ∧ t.g ≤ 65536) := fun t ht => HT.out t (by rw [List.take_of_length_le (by rw [HC.out.1]; exact Nat.le_refl _)]; exact ht)
              clear HT hlt hq
              obtain ⟨w0, rfl⟩ : ∃ w0, w0 = wr := ⟨_, rfl⟩
              have H17 := toCt_any a n cap 0 ts w0 (by omega) HC.out HL2.out HG.out ⟨by omega, by omega⟩
              have HH17 : Hid (Calls Try.prog 17 #[.slice a n cap, .int .i64 0] w0 fun e w' => ∃ us, e = .returned (.slice (some ⟨w0.heap.size, 0, none⟩) n n) ∧ CtRow w' w0.heap.size 0 n us ∧ (∀ (j : Nat) t u, ts[j]? = some t → us[j]? = some u → Made 0 t u) ∧ Below w0.heap.size w0 w') := H17
              clear H17
              go_wp2_with fail
              refine HH17.out.mono ?_
              rintro e w1 ⟨us1, rfl, r1, m1, b1⟩
              clear HH17
              have hu1 : ∀ u ∈ us1, u.l ≤ 65536 ∧ 0 ≤ u.g ∧ u.g ≤ 65536 := fun u hu => by
                obtain ⟨j, hj⟩ := List.mem_iff_getElem?.1 hu
                have hjl := (List.getElem?_eq_some_iff.1 hj).1
                have hlt : j < ts.length := by rw [HC.out.1, ← r1.len]; exact hjl
                have hm := m1 j _ u (List.getElem?_eq_getElem hlt) hj
                have h1 := HG.out _ (List.getElem_mem hlt)
                have h2 := HL2.out _ (List.getElem_mem hlt)
                refine ⟨by rw [hm.l]; exact h2, ?_⟩
                rw [hm.g]
                by_cases h0 : (ts[j]).g = 0
                · rw [if_pos h0]; omega
                · rw [if_neg h0]; omega
              have HH16 : Hid (Calls Try.prog 16 #[.slice (some ⟨w0.heap.size, 0, none⟩) n n] w1 fun e w' => ∃ b : Nat, e = .returned (.pointer (some ⟨b, 0, none⟩)) ∧ IndexAt w1 w' b us1) := zzindex_any w0.heap.size n us1 w1 (by omega) r1 (fun u hu => (hu1 u hu).1) (fun u hu => ⟨(hu1 u hu).2.1, by have := (hu1 u hu).2.2; omega⟩)
              have R1 : Hid (CtRow w1 w0.heap.size 0 n us1) := r1
              have MM1 : Hid (∀ (j : Nat) t u, ts[j]? = some t → us1[j]? = some u → Made 0 t u) := m1
              have BB1 : Hid (Below w0.heap.size w0 w1) := b1
              have HU1 : Hid (∀ u ∈ us1, u.l ≤ 65536 ∧ 0 ≤ u.g ∧ u.g ≤ 65536) := hu1
              clear r1 m1 b1 hu1
              go_wp2_with fail
              refine HH16.out.mono ?_
              rintro e w2 ⟨x1, rfl, ix1⟩
              clear HH16
              have BB2 : Below w0.heap.size w0 w2 := BB1.out.trans (ix1.bel.mono BB1.out.size)
              have hbs : Bs w2 w2 a x1 n us1 := ⟨raw_of HC.out BB2 R1.out.len MM1.out, ⟨w1, ix1⟩, fun u hu => by
                obtain ⟨j, hj⟩ := List.mem_iff_getElem?.1 hu
                exact ((R1.out.kept ix1.bel).chs j u hj), Below.refl _ _⟩
              have HB2 : Hid (Below w0.heap.size w0 w2) := BB2
              have HFin : Hid (Calls Try.prog 18 #[.slice a n cap, .pointer (some ⟨x1, 0, none⟩)] w2 fun e w' => e = .returned (.bool true) ∧ Below w2.heap.size w2 w') := HGA.out a n cap x1 us1 w2 (by omega) hbs (fun u hu => (HU1.out u hu).2) (fun u hu => (HU1.out u hu).1)
              clear hbs BB2 ix1 R1 MM1 BB1 HU1 HG HL2 HL HC HGA
              go_wp2_with fail
              refine HFin.out.mono ?_
              rintro e w3 ⟨rfl, hb3⟩
              have HB3 : Hid (Below w0.heap.size w0 w3) := HB2.out.trans (hb3.mono HB2.out.size)
              clear hb3
              go_wp2
              go_ret
              exact ⟨rfl, HB3.out⟩
end Go.Proofs.Qxb6600550a.Rad
