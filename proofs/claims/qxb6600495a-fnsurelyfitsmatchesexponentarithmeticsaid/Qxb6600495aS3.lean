import Derived.Test.Qxb6600495aS2
namespace Go.Proofs.Qxb6600495a.Fits
open Go.RowKit

theorem count_any (a : Option Addr) (n cap : Nat) (zs : List Int) (c : Int) (w : World) (hn : n ≤ 1048576) (h0 : 0 < n) (h : Row w a n zs) :
    Calls Try.prog 11 #[.slice a n cap, .int .u8 c] w fun e w' => e = .returned (.int .i64 (cnt c zs)) ∧ w' = w := by
  obtain ⟨hl, _, hc⟩ := h
  obtain ⟨b, off, rfl, hc'⟩ := hc h0
  exact count_row b off n cap zs c w hl hn hc'

theorem sf_any (a : Option Addr) (n cap : Nat) (zs : List Int) (a2 : Option Addr) (m cap2 : Nat) (ys : List Int) (w : World) (h0 : 0 < n) (hn : n ≤ 10000) (hm : m ≤ 1048576) (h : Row w a n zs) (h2 : Row w a2 m ys) :
    Calls Try.prog 24 #[.slice a n cap, .slice a2 m cap2] w fun e w' => e = .returned (.bool (sf zs ys)) ∧ w' = w := by
  obtain ⟨hl, _, hc⟩ := h
  obtain ⟨b, off, rfl, hc'⟩ := hc h0
  obtain ⟨yl, hy, yc⟩ := h2
  by_cases hm0 : m = 0
  · subst hm0
    obtain rfl : ys = [] := List.eq_nil_of_length_eq_zero yl
    cases hz : (zs.getD 0 0 != 48) with
    | false => exact sf_z_e w b off n cap zs h0 hc' a2 cap2 hz
    | true => exact sf_d_e w b off n cap zs hl hn h0 hc' a2 cap2 hz
  · obtain ⟨b2, o2, rfl, yc'⟩ := yc (by omega)
    cases hz : (zs.getD 0 0 != 48) with
    | false => exact sf_z_r w b off n cap zs h0 hc' b2 o2 m cap2 ys yl hm (by omega) hy yc' hz
    | true => exact sf_d_r w b off n cap zs hl hn h0 hc' b2 o2 m cap2 ys yl hm (by omega) hy yc' hz

theorem zzsf_any (a : Option Addr) (n cap : Nat) (zs : List Int) (a2 : Option Addr) (m cap2 : Nat) (ys : List Int) (w : World) (h0 : 0 < n) (hn : n ≤ 10000) (hm : m ≤ 1048576) (h : Row w a n zs) (h2 : Row w a2 m ys) :
    Calls Try.prog 10 #[.slice a n cap, .slice a2 m cap2] w fun e w' => e = .returned (.bool (sf zs ys)) ∧ w' = w := by
  go_enter Try.func10, Try.ntmps10
  go_wp2_with fail
  refine (sf_any a n cap zs a2 m cap2 ys w h0 hn hm h h2).mono ?_
  rintro e w' ⟨rfl, rfl⟩
  go_wp2
  go_ret
  exact ⟨rfl, rfl⟩

theorem clone_nil (w : World) : Calls Try.prog 9 #[.slice none 0 0] w fun e w' => e = .returned (.slice none 0 0) ∧ w' = w := by
  have hnil := fun (w : World) (a : Option Addr) (n c n' c' : Nat) => Lib.run_eql_slice_nil (P := Try.prog) w 22 5 a n c n' c' Try.underlying22
  go_enter Try.func9, Try.ntmps9
  go_wp2
  go_ret
  exact ⟨rfl, rfl⟩

theorem info5 : (Try.prog.info? 5).map (fun i => (i.zero, i.size, i.bytes)) = some (some (.int .u8 0), 1, 1) := by kernel_rfl

/-- What the clone holds behind k rounds. -/
def part (zs : List Int) (k : Nat) : List Value := (zs.take k).map (Value.int .u8) ++ List.replicate (zs.length - k) (.int .u8 0)
theorem part_len (zs : List Int) (k : Nat) (h : k ≤ zs.length) : (part zs k).length = zs.length := by simp [part]; omega
theorem part_at (zs : List Int) (k : Nat) (h : k < zs.length) : (part zs k)[k]? = some (.int .u8 0) := by
  rw [part, List.getElem?_append_right (by simp; omega)]
  simp only [List.length_map, List.length_take, Nat.min_eq_left (Nat.le_of_lt h), Nat.sub_self]
  rw [List.getElem?_replicate, if_pos (by omega)]
theorem part_set (zs : List Int) (k : Nat) (h : k < zs.length) : (part zs k).set k (.int .u8 (zs.getD k 0)) = part zs (k + 1) := by
  have e : zs.length - k = (zs.length - (k + 1)) + 1 := by omega
  rw [part, part, List.set_append_right _ _ (by simp; omega), e, List.replicate_succ]
  simp only [List.length_map, List.length_take, Nat.min_eq_left (Nat.le_of_lt h), Nat.sub_self, List.set_cons_zero]
  rw [take_snoc zs k h]
  simp
theorem part_full (zs : List Int) : part zs zs.length = zs.map (Value.int .u8) := by simp [part]
theorem part_zero (zs : List Int) : part zs 0 = List.replicate zs.length (.int .u8 0) := by simp [part]

set_option maxHeartbeats 800000 in
theorem clone_row (b off n cap : Nat) (zs : List Int) (w : World) (hn : n ≤ 1048576) (hb : b < w.heap.size) (hl : zs.length = n) (hc : ∀ i, i < n → w.cell? ⟨b, off + i, none⟩ = some (.int .u8 (zs.getD i 0))) :
    Calls Try.prog 9 #[.slice (some ⟨b, off, none⟩) n cap] w fun e w' => e = .returned (.slice (some ⟨w.heap.size, 0, none⟩) n n) ∧ w'.ownsRow w.heap.size 5 1 (.slice (some ⟨w.heap.size, 0, none⟩) n n) n (zs.map (Value.int .u8)) ∧ Below w.heap.size w w' := by
  obtain ⟨i0, hi, hz0, hz1, hz2⟩ := info_parts info5
  have hnil := fun (w : World) (a : Option Addr) (n c n' c' : Nat) => Lib.run_eql_slice_nil (P := Try.prog) w 22 5 a n c n' c' Try.underlying22
  go_enter Try.func9, Try.ntmps9
  go_wp2_with (at_make; refine wpList_make_full _ rfl _ _ 22 rfl w.heap.size 5 i0 (.int .u8 0) 1 Try.underlying22 hi hz0 hz1 _ _ _ _ n rfl rfl rfl rfl (by rw [hz2]; omega) (by unfold maxLen; omega) (Nat.le_refl _) ?_)
  intro w1 hown hgrow
  have hown : w1.ownsRow w.heap.size 5 1 (.slice (some ⟨w.heap.size, 0, none⟩) n n) n (part zs 0) := by
    rw [part_zero, hl]
    rw [toList_madeCells_one] at hown
    exact hown
  have HB : Hid (w1.ownsRow w.heap.size 5 1 (.slice (some ⟨w.heap.size, 0, none⟩) n n) n (part zs 0) ∧ Below w.heap.size w w1) := ⟨hown, (Below.refl _ _).grown hgrow (Nat.le_refl _) (by simp)⟩
  clear hown hgrow hi hz0 hz1 hz2
  go_wp2
  go_loopw [4] (fun i wr => ∃ k : Nat, k ≤ n ∧ i = .int .i64 k ∧ Hid (wr.ownsRow w.heap.size 5 1 (.slice (some ⟨w.heap.size, 0, none⟩) n n) n (part zs k) ∧ Below w.heap.size w wr)) (fun i _ => n - (intOf i).toNat)
  case atStart => exact ⟨0, Nat.zero_le _, rfl, HB⟩
  case round =>
    obtain ⟨k, hk, rfl, HI⟩ := hrel
    clear HB
    by_cases hlt : k < n
    · have hcell : wr.cell? ⟨b, off + k, none⟩ = some (.int .u8 (zs.getD k 0)) := (HI.out.2.cell (by exact hb)).trans (hc k hlt)
      have hold : wr.cell? ⟨w.heap.size, k, none⟩ = some (.int .u8 0) := by rw [HI.out.1.cellAt k (by omega)]; exact part_at zs k (by omega)
      have hfr : wr.frozen? ⟨w.heap.size, k, none⟩ = false := HI.out.1.frozenAt k
      have HN : Hid ((wr.setCell ⟨w.heap.size, k, none⟩ (.int .u8 (zs.getD k 0))).ownsRow w.heap.size 5 1 (.slice (some ⟨w.heap.size, 0, none⟩) n n) n (part zs (k + 1)) ∧ Below w.heap.size w (wr.setCell ⟨w.heap.size, k, none⟩ (.int .u8 (zs.getD k 0)))) :=
        ⟨by have := (HI.out.1.stored k (.int .u8 (zs.getD k 0))).1; rw [part_set zs k (by omega)] at this; exact this, HI.out.2.setCell (Nat.le_refl _) _⟩
      obtain ⟨z, hz⟩ : ∃ z, z = zs.getD k 0 := ⟨_, rfl⟩
      rw [← hz] at hcell HN
      clear hc hl hz
      go_wp2
      go_roundw
      case rel => exact ⟨k + 1, by omega, by go_num, HN⟩
      case measure => simp [intOf]; omega
    · obtain rfl : k = n := by omega
      go_wp2
      go_ret
      exact ⟨rfl, by have := HI.out.1; rw [← hl, part_full] at this; rw [← hl]; exact this, HI.out.2⟩

set_option maxHeartbeats 800000 in
theorem clone_empty (x : Addr) (cap : Nat) (w : World) :
    Calls Try.prog 9 #[.slice (some x) 0 cap] w fun e w' => e = .returned (.slice (some ⟨w.heap.size, 0, none⟩) 0 0) ∧ Below w.heap.size w w' := by
  obtain ⟨i0, hi, hz0, hz1, hz2⟩ := info_parts info5
  have hnil := fun (w : World) (a : Option Addr) (n c n' c' : Nat) => Lib.run_eql_slice_nil (P := Try.prog) w 22 5 a n c n' c' Try.underlying22
  go_enter Try.func9, Try.ntmps9
  go_wp2_with (at_make; refine wpList_make_full _ rfl _ _ 22 rfl w.heap.size 5 i0 (.int .u8 0) 1 Try.underlying22 hi hz0 hz1 _ _ _ _ 0 rfl rfl rfl rfl (by omega) (by unfold maxLen; omega) (Nat.le_refl _) ?_)
  intro w1 hown hgrow
  have HB : Hid (Below w.heap.size w w1) := (Below.refl _ _).grown hgrow (Nat.le_refl _) (by simp)
  clear hown hgrow hi hz0 hz1 hz2
  go_wp2
  refine wp_loop_rounds 1 ?_
  rw [rounds_succ]
  go_wp2
  go_ret
  exact ⟨rfl, HB⟩

/-- The clone: the same bytes in a row of the call's own (or nothing where there was none). -/
theorem clone_any (a : Option Addr) (n cap : Nat) (zs : List Int) (w : World) (hn : n ≤ 1048576) (hnil : a = none → n = 0 ∧ cap = 0) (h : Row w a n zs) :
    Calls Try.prog 9 #[.slice a n cap] w fun e w' => ∃ a' cap', e = .returned (.slice a' n cap') ∧ Row w' a' n zs ∧ Below w.heap.size w w' := by
  obtain ⟨hl, hz, hc⟩ := h
  cases a with
  | none =>
    obtain ⟨rfl, rfl⟩ := hnil rfl
    refine (clone_nil w).mono ?_
    rintro e w' ⟨rfl, rfl⟩
    exact ⟨none, 0, rfl, ⟨hl, hz, by omega⟩, Below.refl _ _⟩
  | some x =>
    by_cases h0 : n = 0
    · subst h0
      refine (clone_empty x cap w).mono ?_
      rintro e w' ⟨rfl, hb⟩
      exact ⟨_, _, rfl, ⟨hl, hz, by omega⟩, hb⟩
    · obtain ⟨b, off, hx, hc'⟩ := hc (by omega)
      obtain rfl := Option.some.inj hx
      have hb : b < w.heap.size := World.block_lt_of_cell? w _ (hc' 0 (by omega))
      refine (clone_row b off n cap zs w hn hb hl hc').mono ?_
      rintro e w' ⟨rfl, hown, hbel⟩
      refine ⟨_, _, rfl, ⟨hl, hz, fun _ => ⟨_, _, rfl, fun i hi => ?_⟩⟩, hbel⟩
      · rw [Nat.zero_add, hown.cellAt i (by omega)]
        simp [List.getD_eq_getElem?_getD, List.getElem?_eq_getElem (show i < zs.length by omega)]

theorem Row.kept {w w' : World} {a : Option Addr} {n : Nat} {zs : List Int} (h : Row w a n zs) (hb : Below w.heap.size w w') : Row w' a n zs := by
  obtain ⟨hl, hz, hc⟩ := h
  refine ⟨hl, hz, fun h0 => ?_⟩
  obtain ⟨b, off, rfl, hc'⟩ := hc h0
  exact ⟨b, off, rfl, fun i hi => (hb.cell (World.block_lt_of_cell? w _ (hc' i hi))).trans (hc' i hi)⟩

theorem zzb_no (a0 a1 : Option Addr) (n0 c0 n1 c1 : Nat) (w : World) (h0 : n0 ≤ 9223372036854775807) (h1 : n1 ≤ 9223372036854775807) (h : 1048576 < n0 + n1) :
    Calls Try.prog 8 #[.slice a0 n0 c0, .slice a1 n1 c1] w fun e w' => e = .returned (.bool false) ∧ w' = w := by
  by_cases h2 : 1048576 < n0
  · go_enter Try.func8, Try.ntmps8
    go_wp2
    go_ret
    exact ⟨rfl, rfl⟩
  · by_cases h3 : 1048576 < n1
    · go_enter Try.func8, Try.ntmps8
      go_wp2
      go_ret
      exact ⟨rfl, rfl⟩
    · go_enter Try.func8, Try.ntmps8
      go_wp2
      go_ret
      exact ⟨rfl, rfl⟩
theorem zzb_yes (a0 a1 : Option Addr) (n0 c0 n1 c1 : Nat) (w : World) (h : n0 + n1 ≤ 1048576) :
    Calls Try.prog 8 #[.slice a0 n0 c0, .slice a1 n1 c1] w fun e w' => e = .returned (.bool true) ∧ w' = w := by
  go_enter Try.func8, Try.ntmps8
  go_wp2
  go_ret
  exact ⟨rfl, rfl⟩
end Go.Proofs.Qxb6600495a.Fits
