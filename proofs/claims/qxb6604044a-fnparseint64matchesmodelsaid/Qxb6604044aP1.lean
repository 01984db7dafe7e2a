import Derived.Test.Qxb6604044aP0
import Derived.Test.Qxb6604044aProg
import Derived.WalkKit
import Derived.ProofKit
import Derived.WalkSpells
import Derived.WalkLawsBesides
namespace Go.Proofs.Qxb6604044a.Dec
open Go.RowKit

/-- The bytes of a string as numbers. -/
def bz (s : ByteArray) : List Int := s.data.toList.map (fun b => (b.toNat : Int))
theorem bz_len (s : ByteArray) : (bz s).length = s.size := by simp [bz]
theorem bz_at (s : ByteArray) (k : Nat) (h : k < s.size) : (bz s).getD k 0 = (s[k].toNat : Int) := by
  have hk : k < s.data.toList.length := by simpa using h
  simp only [bz, List.getD_eq_getElem?_getD, List.getElem?_map, List.getElem?_eq_getElem hk, Option.map_some, Option.getD_some]
  rfl

theorem ret3 {a b : Int} {x : Bool} {a' b' : Int} {x' : Bool} (h1 : a = a') (h2 : b = b') (h3 : x = x') : Ending.returned (.tuple #[.int .i64 a, .int .i32 b, .bool x]) = .returned (.tuple #[.int .i64 a', .int .i32 b', .bool x']) := by rw [h1, h2, h3]

theorem pow10_le {a b : Nat} (h : a ≤ b) : (10 : Int) ^ a ≤ 10 ^ b := by
  have h1 : 10 ^ a ≤ 10 ^ b := Nat.pow_le_pow_right (by omega) h
  have e : ∀ m : Nat, (((10 ^ m : Nat)) : Int) = (10 : Int) ^ m := fun m => by simp
  rw [← e, ← e]
  omega

theorem empty_is (s : ByteArray) : s.toList.isEmpty = decide (s.size = 0) := by
  rw [ByteArray.toList_eq, Bool.eq_iff_iff]
  simp only [List.isEmpty_iff, decide_eq_true_eq, Array.toList_eq_nil_iff]
  exact Array.size_eq_zero_iff.symm

/-- ParseInt64's loop. -/
structure R8 (zs : List Int) (k : Nat) (co pt : Int) : Prop where
  s : sc zs 0 (-1) = sc (zs.drop k) k pt
  v : nd (zs.take k) ≤ 18 → co = dv (zs.take k)
  o : ok (zs.take k)
  p : pt = -1 ∨ (0 ≤ pt ∧ pt < (k : Int))

theorem R8.digit {zs : List Int} {k : Nat} {co pt z : Int} (h : R8 zs k co pt) (hk : k < zs.length) (hz : zs.getD k 0 = z) (h1 : 48 ≤ z) (h2 : z ≤ 57) (co' : Int) (hc : nd (zs.take k) ≤ 17 → co' = co * 10 + (z - 48)) : R8 zs (k + 1) co' pt := by
  have hd := drop_cons zs k hk
  have ht := take_snoc zs k hk
  rw [hz] at hd ht
  have hz46 : z ≠ 46 := by omega
  refine ⟨by rw [h.s, hd, sc_digit ⟨h1, h2⟩], ?_, ?_, ?_⟩
  · intro hn
    rw [ht, nd_app] at hn
    simp [nd, hz46] at hn
    rw [ht, dv_snoc _ _ hz46, ← h.v (by omega)]
    exact hc (by omega)
  · rw [ht]; intro c hcm
    rcases List.mem_append.1 hcm with hcm | hcm
    · exact h.o c hcm
    · simp at hcm; subst hcm; exact .inr ⟨h1, h2⟩
  · rcases h.p with h | h
    · exact .inl h
    · exact .inr ⟨h.1, by omega⟩
theorem R8.point {zs : List Int} {k : Nat} {co pt : Int} (h : R8 zs k co pt) (hk : k < zs.length) (hz : zs.getD k 0 = 46) (hp : pt < 0) : R8 zs (k + 1) co (k : Int) := by
  have hd := drop_cons zs k hk
  have ht := take_snoc zs k hk
  rw [hz] at hd ht
  refine ⟨by rw [h.s, hd, sc_point hp], ?_, ?_, .inr ⟨by omega, by omega⟩⟩
  · intro hn
    rw [ht, nd_app] at hn
    simp [nd] at hn
    rw [ht, dv_snoc_point, ← h.v hn]
  · rw [ht]; intro c hcm
    rcases List.mem_append.1 hcm with hcm | hcm
    · exact h.o c hcm
    · simp at hcm; subst hcm; exact .inl rfl
theorem R8.bad {zs : List Int} {k : Nat} {co pt z : Int} (h : R8 zs k co pt) (hk : k < zs.length) (hz : zs.getD k 0 = z) (h1 : ¬ (48 ≤ z ∧ z ≤ 57)) (h2 : ¬ (z = 46 ∧ pt < 0)) : ac zs = false ∧ cf zs = 0 ∧ xp zs = 0 := by
  have hd := drop_cons zs k hk
  rw [hz] at hd
  have hn : sc zs 0 (-1) = none := by rw [h.s, hd, sc_bad h1 h2]
  have := sc_none zs 0 (-1) hn
  refine ac_no (fun hh => this ⟨hh.1, ?_⟩)
  have := hh.2.2.2.1
  omega
theorem R8.bound {zs : List Int} {k : Nat} {co pt : Int} (h : R8 zs k co pt) (hn : nd (zs.take k) ≤ 17) : 0 ≤ co ∧ co ≤ 99999999999999999 := by
  have hb := dv_bound _ h.o
  rw [h.v (by omega)]
  have hp : (10 : Int) ^ nd (zs.take k) ≤ 10 ^ 17 := pow10_le hn
  have e : (10 : Int) ^ 17 = 100000000000000000 := by decide
  omega
theorem R8.fin {zs : List Int} {co pt : Int} (h : R8 zs zs.length co pt) :
    (np zs = 0 ∧ pt = -1 ∧ nd zs = zs.length ∧ ok zs ∧ (nd zs ≤ 18 → co = dv zs)) ∨ (np zs = 1 ∧ pt = fp zs 0 (-1) ∧ 0 ≤ pt ∧ pt < (zs.length : Int) ∧ nd zs + 1 = zs.length ∧ ok zs ∧ (nd zs ≤ 18 → co = dv zs)) := by
  have hs := h.s
  rw [List.drop_length] at hs
  have hv := h.v
  rw [List.take_length] at hv
  have hl := nd_np zs
  obtain ⟨h1, h2⟩ := sc_some zs 0 (-1) pt hs
  rcases h2 with ⟨a, b⟩ | ⟨a, _, b, c, d⟩
  · exact .inl ⟨a, b, by omega, h1, hv⟩
  · exact .inr ⟨a, b, by omega, by omega, by omega, h1, hv⟩

theorem parse_long (s : ByteArray) (w : World) (h : 19 < s.size) (hm : s.size ≤ 1048576) :
    Calls Try.prog 8 #[.string s] w fun e w' => e = .returned (.tuple #[.int .i64 (cf (bz s)), .int .i32 (xp (bz s)), .bool (ac (bz s))]) ∧ w' = w := by
  have hl := nd_np (bz s)
  rw [bz_len] at hl
  obtain ⟨h1, h2, h3⟩ := ac_no (l := bz s) (by omega)
  have H : Hid (ac (bz s) = false ∧ cf (bz s) = 0 ∧ xp (bz s) = 0) := ⟨h1, h2, h3⟩
  clear h1 h2 h3 hl
  go_enter Try.func8, Try.ntmps8
  go_wp2
  go_ret3
  exact ⟨ret3 H.out.2.1.symm H.out.2.2.symm H.out.1.symm, rfl⟩

set_option maxHeartbeats 1600000 in
theorem parse_short (s : ByteArray) (w : World) (h : s.size ≤ 19) :
    Calls Try.prog 8 #[.string s] w fun e w' => e = .returned (.tuple #[.int .i64 (cf (bz s)), .int .i32 (xp (bz s)), .bool (ac (bz s))]) ∧ w' = w := by
  go_enter Try.func8, Try.ntmps8
  go_wp2
  go_loop [5, 6, 7] (fun a b i => ∃ (k : Nat) (co pt : Int), k ≤ s.size ∧ i = .int .i64 k ∧ a = .int .i64 co ∧ b = .int .i64 pt ∧ -1 ≤ pt ∧ pt ≤ 19 ∧ Hid (R8 (bz s) k co pt)) (fun _ _ i => s.size - (intOf i).toNat)
  case atStart => exact ⟨0, 0, -1, Nat.zero_le _, rfl, rfl, rfl, by omega, by omega, ⟨rfl, fun _ => rfl, by simp [ok], .inl rfl⟩⟩
  case round =>
    obtain ⟨k, co, pt, hk, rfl, rfl, rfl, p1, p2, HR⟩ := hrel
    by_cases hlt : k < s.size
    · have HZ : Hid ((bz s).getD k 0 = (s[k].toNat : Int)) := bz_at s k hlt
      have hzl : (s[k].toNat : Int) ≤ 255 := by have := s[k].toNat_lt; omega
      by_cases h1 : 48 ≤ (s[k].toNat : Int)
      · by_cases h2 : (s[k].toNat : Int) ≤ 57
        · by_cases hn : nd ((bz s).take k) ≤ 17
          · obtain ⟨b0, b1⟩ := HR.out.bound hn
            have HN : Hid (nd ((bz s).take k) ≤ 17) := hn
            clear hn
            go_wp2
            go_round
            case rel => exact ⟨k + 1, _, pt, by omega, by go_num, rfl, rfl, p1, p2, HR.out.digit (by rw [bz_len]; exact hlt) HZ.out h1 h2 _ (fun _ => rfl)⟩
            case measure => simp [intOf]; omega
          · have HN : Hid (¬ nd ((bz s).take k) ≤ 17) := hn
            clear hn
            go_wp2
            go_round
            case rel => exact ⟨k + 1, _, pt, by omega, by go_num, rfl, rfl, p1, p2, HR.out.digit (by rw [bz_len]; exact hlt) HZ.out h1 h2 _ (fun hx => absurd hx HN.out)⟩
            case measure => simp [intOf]; omega
        · have hd : decide ((s[k].toNat : Int) ≤ 57) = false := by simpa using h2
          obtain ⟨c1, c2, c3⟩ := HR.out.bad (by rw [bz_len]; exact hlt) HZ.out (by omega) (by omega)
          have HC : Hid (ac (bz s) = false ∧ cf (bz s) = 0 ∧ xp (bz s) = 0) := ⟨c1, c2, c3⟩
          clear c1 c2 c3
          have h46 : ((s[k].toNat : Int) == 46) = false := by simp; omega
          go_wp2
          go_ret3
          exact ⟨ret3 HC.out.2.1.symm HC.out.2.2.symm HC.out.1.symm, rfl⟩
      · have hd : decide (48 ≤ (s[k].toNat : Int)) = false := by simpa using h1
        by_cases h3 : (s[k].toNat : Int) = 46
        · have h46 : ((s[k].toNat : Int) == 46) = true := by simp [h3]
          by_cases h4 : pt < 0
          · have HP := HR.out.point (by rw [bz_len]; exact hlt) (HZ.out.trans h3) h4
            have HP' : Hid (R8 (bz s) (k + 1) co (k : Int)) := HP
            clear HP h3
            go_wp2
            go_round
            case rel => exact ⟨k + 1, co, (k : Int), by omega, by go_num, rfl, rfl, by omega, by omega, HP'⟩
            case measure => simp [intOf]; omega
          · have hd2 : decide (pt < 0) = false := by simpa using h4
            obtain ⟨c1, c2, c3⟩ := HR.out.bad (by rw [bz_len]; exact hlt) HZ.out (by omega) (by omega)
            have HC : Hid (ac (bz s) = false ∧ cf (bz s) = 0 ∧ xp (bz s) = 0) := ⟨c1, c2, c3⟩
            clear c1 c2 c3 h3
            go_wp2
            go_ret3
            exact ⟨ret3 HC.out.2.1.symm HC.out.2.2.symm HC.out.1.symm, rfl⟩
        · have h46 : ((s[k].toNat : Int) == 46) = false := by simpa using h3
          obtain ⟨c1, c2, c3⟩ := HR.out.bad (by rw [bz_len]; exact hlt) HZ.out (by omega) (by omega)
          have HC : Hid (ac (bz s) = false ∧ cf (bz s) = 0 ∧ xp (bz s) = 0) := ⟨c1, c2, c3⟩
          clear c1 c2 c3 h3
          go_wp2
          go_ret3
          exact ⟨ret3 HC.out.2.1.symm HC.out.2.2.symm HC.out.1.symm, rfl⟩
    · obtain rfl : k = s.size := by omega
      have hR := HR.out
      rw [← bz_len s] at hR
      have hf := hR.fin
      rw [bz_len] at hf
      clear hR HR
      rcases hf with ⟨f1, rfl, f3, f4, f5⟩ | ⟨f1, f2, f3, f4, f5, f6, f7⟩
      · by_cases h0 : s.size = 0
        · have hse : s.toList.isEmpty = true := by rw [empty_is]; simp [h0]
          obtain ⟨c1, c2, c3⟩ := ac_no (l := bz s) (by omega)
          have HC : Hid (ac (bz s) = false ∧ cf (bz s) = 0 ∧ xp (bz s) = 0) := ⟨c1, c2, c3⟩
          clear c1 c2 c3 f1 f3 f4 f5
          go_wp2
          go_ret3
          exact ⟨ret3 HC.out.2.1.symm HC.out.2.2.symm HC.out.1.symm, rfl⟩
        · have hse : s.toList.isEmpty = false := by rw [empty_is]; simp [h0]
          by_cases h19 : 18 < s.size
          · obtain ⟨c1, c2, c3⟩ := ac_no (l := bz s) (by omega)
            have HC : Hid (ac (bz s) = false ∧ cf (bz s) = 0 ∧ xp (bz s) = 0) := ⟨c1, c2, c3⟩
            clear c1 c2 c3 f1 f3 f4 f5
            go_wp2
            go_ret3
            exact ⟨ret3 HC.out.2.1.symm HC.out.2.2.symm HC.out.1.symm, rfl⟩
          · obtain ⟨c1, c2, c3⟩ := ac_yes (l := bz s) ⟨f4, by omega, by omega, by omega, .inl f1⟩
            have hco := f5 (by omega)
            rw [if_neg (by omega)] at c3
            have HC : Hid (ac (bz s) = true ∧ cf (bz s) = co ∧ xp (bz s) = 0) := ⟨c1, c2.trans hco.symm, c3⟩
            clear c1 c2 c3 f1 f3 f4 f5 hco
            go_wp2
            go_ret3
            exact ⟨ret3 HC.out.2.1.symm HC.out.2.2.symm HC.out.1.symm, rfl⟩
      · have hse : s.toList.isEmpty = false := by rw [empty_is]; exact decide_eq_false (by omega)
        by_cases h0 : pt = 0
        · subst h0
          obtain ⟨c1, c2, c3⟩ := ac_no (l := bz s) (fun hh => by have := hh.2.2.2.2; omega)
          have HC : Hid (ac (bz s) = false ∧ cf (bz s) = 0 ∧ xp (bz s) = 0) := ⟨c1, c2, c3⟩
          clear c1 c2 c3 f1 f2 f5 f6 f7
          go_wp2
          go_ret3
          exact ⟨ret3 HC.out.2.1.symm HC.out.2.2.symm HC.out.1.symm, rfl⟩
        · have t0 : (pt == 0) = false := by simpa using h0
          by_cases h9 : pt = (s.size : Int) - 1
          · obtain ⟨c1, c2, c3⟩ := ac_no (l := bz s) (fun hh => by have := hh.2.2.2.2; rw [← f2, bz_len] at this; omega)
            have HC : Hid (ac (bz s) = false ∧ cf (bz s) = 0 ∧ xp (bz s) = 0) := ⟨c1, c2, c3⟩
            have t1 : ((s.size : Int) - pt - 1 == 0) = true := by simp; omega
            have t2 : 0 < pt := by omega
            clear c1 c2 c3 f1 f2 f5 f6 f7 h9
            go_wp2
            go_ret3
            exact ⟨ret3 HC.out.2.1.symm HC.out.2.2.symm HC.out.1.symm, rfl⟩
          · obtain ⟨c1, c2, c3⟩ := ac_yes (l := bz s) ⟨f6, by omega, by omega, by omega, .inr (by rw [← f2, bz_len]; omega)⟩
            have hco := f7 (by omega)
            rw [if_pos f1, ← f2, bz_len] at c3
            have HC : Hid (ac (bz s) = true ∧ cf (bz s) = co ∧ xp (bz s) = -((s.size : Int) - 1 - pt)) := ⟨c1, c2.trans hco.symm, c3⟩
            have t1 : ((s.size : Int) - pt - 1 == 0) = false := by simp; omega
            clear c1 c2 c3 f1 f2 f5 f6 f7 hco h9
            go_wp2
            go_ret3
            exact ⟨ret3 HC.out.2.1.symm (by rw [HC.out.2.2]; simp; omega) HC.out.1.symm, rfl⟩

theorem parse_any (s : ByteArray) (w : World) (hm : s.size ≤ 1048576) :
    Calls Try.prog 8 #[.string s] w fun e w' => e = .returned (.tuple #[.int .i64 (cf (bz s)), .int .i32 (xp (bz s)), .bool (ac (bz s))]) ∧ w' = w := by
  by_cases h : 19 < s.size
  · exact parse_long s w h hm
  · exact parse_short s w (by omega)
end Go.Proofs.Qxb6604044a.Dec
