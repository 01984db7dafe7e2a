import Derived.Test.Qxb6600550aF0
import Derived.BigRegion
import Derived.Carry
import Derived.Deep.Cut
import Derived.Deep.CutRange
import Derived.Deep.RegionLaw
import Derived.Deep.RegionHeld3
namespace Go.Proofs.Qxb6600550a.Rad
open Go.RowKit Go.Proofs.Qxb6600550a.Idx

theorem R16.allocAB {w wx : World} {b hm lm kB N : Nat} {cs : Array Value} {s : Ix} {vk vc : Value} {t : Ct} {bx : Nat} (h : R16 w wx b hm lm kB N cs s vk vc t bx .zero .zero) : R16 w ((wx.alloc (.cells #[.int .i64 t.g, .slice t.a t.l t.c, .float .f64 t.wt] 73)).alloc (.cells #[.int .i32 0] 21)) b hm lm kB N cs s vk vc t bx (.built wx.heap.size) (.built (wx.heap.size + 1)) := by
  have := h.allocA.allocB
  rwa [show (wx.alloc (.cells #[.int .i64 t.g, .slice t.a t.l t.c, .float .f64 t.wt] 73)).heap.size = wx.heap.size + 1 by simp] at this
theorem R16.allocBA {w wx : World} {b hm lm kB N : Nat} {cs : Array Value} {s : Ix} {vk vc : Value} {t : Ct} {bx : Nat} (h : R16 w wx b hm lm kB N cs s vk vc t bx .zero .zero) : R16 w ((wx.alloc (.cells #[.int .i32 0] 21)).alloc (.cells #[.int .i64 t.g, .slice t.a t.l t.c, .float .f64 t.wt] 73)) b hm lm kB N cs s vk vc t bx (.built (wx.heap.size + 1)) (.built wx.heap.size) := by
  have := h.allocB.allocA
  rwa [show (wx.alloc (.cells #[.int .i32 0] 21)).heap.size = wx.heap.size + 1 by simp] at this
/-- The index of the contents ts stands at block b. -/
def IndexAt (w wr : World) (b : Nat) (ts : List Ct) : Prop := ∃ hm lm kB N vk vc gm gf gs gu M, IxSt w wr b hm lm kB N (ixc vk (.slice (some ⟨gm, 0, none⟩) M M) (.slice (some ⟨gf, 0, none⟩) ((ixOf ts).count.length + 1) ((ixOf ts).count.length + 1)) hm lm (.slice (some ⟨gs, 0, none⟩) (ixOf ts).count.length (ixOf ts).count.length) (.slice (some ⟨gu, 0, none⟩) (ixOf ts).count.length (ixOf ts).count.length)) (ixOf ts) vk vc ∧
  first (ixOf ts).count (ixOf ts).count.length = (M : Nat) ∧ VRow wr gm M 21 (fun i => .int .i32 ((memAt (ixOf ts).kindOf (ixOf ts).count ts ts.length).1 i)) ∧ VRow wr gf ((ixOf ts).count.length + 1) 21 (fun i => .int .i32 (first (ixOf ts).count i)) ∧
  VRow wr gs (ixOf ts).count.length 40 (fun _ => .float .f64 0) ∧ VRow wr gu (ixOf ts).count.length 21 (fun _ => .int .i32 0)
theorem IndexAt.below {w wr w' : World} {b : Nat} {ts : List Ct} (h : IndexAt w wr b ts) (hb : Below wr.heap.size wr w') : IndexAt w w' b ts := by
  obtain ⟨hm, lm, kB, N, vk, vc, gm, gf, gs, gu, M, h1, h2, h3, h4, h5, h6⟩ := h
  exact ⟨hm, lm, kB, N, vk, vc, gm, gf, gs, gu, M, h1.below hb, h2, h3.below hb, h4.below hb, h5.below hb, h6.below hb⟩

theorem below_W1 (w : World) : Below w.heap.size w (W1 w) := ((((Below.refl _ _).alloc (Nat.le_refl _) _).alloc (by simp) _).alloc (by simp; omega) _)

set_option maxRecDepth 100000 in
set_option maxHeartbeats 16000000 in
theorem index_any (G n : Nat) (ts : List Ct) (w : World) (hn : n ≤ 32768) (h : CtRow w G 0 n ts) (hlen : ∀ t ∈ ts, t.l ≤ 65536) (hg : ∀ t ∈ ts, 0 ≤ t.g ∧ t.g ≤ 98304) :
    Calls Try.prog 36 #[.slice (some ⟨G, 0, none⟩) n n] w fun e w' => ∃ b : Nat, e = .returned (.pointer (some ⟨b, 0, none⟩)) ∧ IndexAt w w' b ts := by
  have HC : Hid (CtRow w G 0 n ts) := h
  have HL : Hid (∀ t ∈ ts, t.l ≤ 65536) := hlen
  have HG : Hid (∀ t ∈ ts, 0 ≤ t.g ∧ t.g ≤ 98304) := hg
  clear h hlen hg
  have hfl := store_flt
  have hmm := @run_makeMap Try.prog
  go_enter Try.func36, Try.ntmps36
  go_wp2
  go_loopw [4, 26] (fun v i wr => ∃ j : Nat, j ≤ n ∧ i = .int .i64 j ∧ ∃ m : Nat, v = .int .i64 m ∧ m ≤ 98304 ∧ (∀ t ∈ ts.take j, t.g ≤ (m : Int)) ∧ Hid (Below (w.heap.size + 3) (W1 w) wr)) (fun _ i _ => n - (intOf i).toNat)
  case atStart => exact ⟨0, Nat.zero_le _, rfl, 0, rfl, by omega, by simp, Below.refl _ _⟩
  case round =>
    obtain ⟨j, hj, rfl, m, rfl, hm, hmx, HB⟩ := hrel
    by_cases hlt : j < n
    · obtain ⟨t, ht⟩ : ∃ t, ts[j]? = some t := ⟨_, List.getElem?_eq_getElem (by rw [HC.out.len]; exact hlt)⟩
      have hmem := List.mem_of_getElem? ht
      obtain ⟨hg1, hg2⟩ := HG.out t hmem
      obtain ⟨q0, q1, q2⟩ := HC.out.cell j t ht
      have hbw : Below w.heap.size w wr := (below_W1 w).trans (HB.out.mono (by omega))
      have q0 := (hbw.cell (p := ⟨G, 0 + j * 3, none⟩) HC.out.lt).trans q0
      have q1 := (hbw.cell (p := ⟨G, 0 + j * 3 + 1, none⟩) HC.out.lt).trans q1
      have q2 := (hbw.cell (p := ⟨G, 0 + j * 3 + 2, none⟩) HC.out.lt).trans q2
      simp only [Nat.zero_add] at q0 q1 q2
      have hst := store_float wr (.int .i64 t.g) (.slice t.a t.l t.c) 0 t.wt 73
      have HB2 : Hid (∀ o, Below (w.heap.size + 3) (W1 w) (wr.alloc o)) := fun o => HB.out.alloc (by have := HB.out.size; simp [W1] at this; exact this) o
      have htk : ∀ m' : Nat, t.g ≤ (m' : Int) → m ≤ m' → ∀ u ∈ ts.take (j + 1), u.g ≤ (m' : Int) := fun m' h1 h2 u hu => by
        have hjl : j < ts.length := (List.getElem?_eq_some_iff.1 ht).1
        have hge : ts[j] = t := by rw [List.getElem?_eq_getElem hjl] at ht; exact Option.some.inj ht
        rw [List.take_succ_eq_append_getElem hjl, hge] at hu
        rcases List.mem_append.1 hu with hu | hu
        · have := hmx u hu; omega
        · simp at hu; subst hu; exact h1
      have HT : Hid (∀ m' : Nat, t.g ≤ (m' : Int) → m ≤ m' → ∀ u ∈ ts.take (j + 1), u.g ≤ (m' : Int)) := htk
      clear hbw HB hmx htk hmem
      go_wp2
      refine ⟨⟨j + 1, by omega, by go_num, ?_⟩, by simp [intOf]; omega⟩
      by_cases hmt : (m : Int) < t.g
      · refine ⟨t.g.toNat, by rw [if_pos hmt, Int.toNat_of_nonneg hg1], by omega, HT.out _ (by omega) (by omega), HB2.out _⟩
      · exact ⟨m, by rw [if_neg hmt], hm, HT.out _ (by omega) (by omega), HB2.out _⟩
    · obtain rfl : n = j := by omega
      have hmx : ∀ t ∈ ts, t.g ≤ (m : Int) := fun t ht => hmx t (by rw [List.take_of_length_le (by rw [HC.out.len]; exact Nat.le_refl _)]; exact ht)
      have HMX : Hid (∀ t ∈ ts, t.g ≤ (m : Int)) := hmx
      clear hmx
      obtain ⟨w2, rfl⟩ : ∃ w2, w2 = wr := ⟨_, rfl⟩
      have hr0 : (w2.alloc (.cells #[m1] 21)).cell? ⟨w2.heap.size, 0, none⟩ = some m1 := by
        rw [cell_of_row _ _ _ _ _ _ (heap_alloc_new w2 _)]; rfl
      have HR := repeat_any w2.heap.size (m + 1) (w2.alloc (.cells #[m1] 21)) (by omega) (by omega) hr0
      have HRR : Hid (Calls Try.prog 43 #[.slice (some ⟨w2.heap.size, 0, none⟩) 1 1, .int .i64 ((m : Int) + 1)] (w2.alloc (.cells #[m1] 21)) fun e w' => ∃ B, e = .returned (.slice (some ⟨B, 0, none⟩) (m + 1) (m + 1)) ∧ VRow w' B (m + 1) 21 (fun _ => m1) ∧ (w2.alloc (.cells #[m1] 21)).heap.size ≤ B ∧ Below (w2.alloc (.cells #[m1] 21)).heap.size (w2.alloc (.cells #[m1] 21)) w') := HR
      clear HR hr0 hj hlt
      go_wp2_with fail
      refine HRR.out.mono ?_
      rintro e wq ⟨kB, rfl, hk1, hk2, hk3⟩
      have HI0 : Hid (IxSt w (wq.alloc (.cells #[] 21)) (w.heap.size + 2) w.heap.size (w.heap.size + 1) kB (m + 1) (ixc nl nl nl w.heap.size (w.heap.size + 1) nl nl) Ix.none nl (.slice (some ⟨wq.heap.size, 0, none⟩) 0 0)) := ix_start HB.out (by simpa using hk3) hk1 (by simpa using hk2)
      clear hk1 hk2 hk3 HRR HB
      go_wp2
      generalize hbb : w.heap.size + 1 + 1 = b
      rw [show w.heap.size + 2 = b from hbb] at HI0
      clear hbb
      go_loopw [8, 42] (fun v i wr => ∃ j : Nat, j ≤ n ∧ i = .int .i64 j ∧ ∃ vk ac cc, v = .slice ac (ixOf (ts.take j)).count.length cc ∧ Hid (IxSt w wr b w.heap.size (w.heap.size + 1) kB (m + 1) (ixc vk nl nl w.heap.size (w.heap.size + 1) nl nl) (ixOf (ts.take j)) vk (.slice ac (ixOf (ts.take j)).count.length cc))) (fun _ i _ => n - (intOf i).toNat)
      case atStart => exact ⟨0, Nat.zero_le _, rfl, nl, _, _, rfl, HI0⟩
      case round =>
        obtain ⟨j, hj, rfl, vk, ac, cc, rfl, HI⟩ := hrel
        by_cases hlt : j < n
        · obtain ⟨t, ht⟩ : ∃ t, ts[j]? = some t := ⟨_, List.getElem?_eq_getElem (by rw [HC.out.len]; exact hlt)⟩
          have hmem := List.mem_of_getElem? ht
          obtain ⟨q0, q1, q2⟩ := HC.out.cell j t ht
          have hbw := HI.out.core.bel
          have q0 := (hbw.cell (p := ⟨G, 0 + j * 3, none⟩) HC.out.lt).trans q0
          have q1 := (hbw.cell (p := ⟨G, 0 + j * 3 + 1, none⟩) HC.out.lt).trans q1
          have q2 := (hbw.cell (p := ⟨G, 0 + j * 3 + 2, none⟩) HC.out.lt).trans q2
          simp only [Nat.zero_add] at q0 q1 q2
          have hst := store_float wr (.int .i64 t.g) (.slice t.a t.l t.c) 0 t.wt 73
          have htl := HL.out t hmem
          obtain ⟨hg1, hg2⟩ := HG.out t hmem
          have hgm := HMX.out t hmem
          have hstep := ixOf_take ts j t ht
          have HCh : Hid (ChRow wr t.a t.l t.chs) := (HC.out.chs j t ht).kept hbw
          have hok := ok_ixOf (ts.take j)
          have HOk : Hid (Ok (ixOf (ts.take j)) (ts.take j)) := hok
          have hle : (ixOf (ts.take j)).kinds.length ≤ j := by have := hok.le; simp at this; omega
          have hlc := hok.len
          have HLen : Hid (∀ r, ((ixOf (ts.take j)).hd.h r).length ≤ 2147483648) := fun r => by
            have := ix_len (ts.take j) r (fun u hu => by
              have hu' := List.mem_of_mem_take hu
              obtain ⟨i, hi⟩ := List.mem_iff_getElem?.1 hu'
              rw [(HC.out.chs i u hi).1]; exact HL.out u hu')
            simp at this
            omega
          obtain ⟨s, hs⟩ : ∃ s, s = ixOf (ts.take j) := ⟨_, rfl⟩
          rw [← hs] at hstep HOk hle hlc HI HLen ⊢
          have HLC : Hid (s.count.length = s.kinds.length) := hlc
          clear hlc
          have HStep : Hid (ixOf (ts.take (j + 1)) = s.step t) := hstep
          clear hs hstep hok hmem hbw HI0
          by_cases h0 : t.g = 0
          · have HN : Hid (∀ o, IxSt w (wr.alloc o) b w.heap.size (w.heap.size + 1) kB (m + 1) (ixc vk nl nl w.heap.size (w.heap.size + 1) nl nl) (ixOf (ts.take (j + 1))) vk (.slice ac s.count.length cc)) := fun o => by
              rw [HStep.out, Ix.step, if_pos h0]; exact HI.out.alloc o
            have hcl : s.count.length = (ixOf (ts.take (j + 1))).count.length := by rw [HStep.out, Ix.step, if_pos h0]
            have HCL : Hid (s.count.length = (ixOf (ts.take (j + 1))).count.length) := hcl
            clear hcl HI
            go_wp2
            all_goals
              refine ⟨⟨j + 1, by omega, by go_num, vk, ac, cc, by rw [HCL.out], ?_⟩, by simp [intOf]; omega⟩
              rw [← HCL.out]; exact HN.out _
          · have hkv := fun o => ((HI.out.core.alloc o).kof.cell (i := t.g.toNat) (by omega))
            simp only [Int.toNat_of_nonneg hg1] at hkv
            have hk1 := fun o => (hkv o).1
            have hk2 := fun o => (hkv o).2
            clear hkv
            by_cases hk : s.kindOf t.g < 0
            · obtain ⟨ak, ck, hvk⟩ := own_shape HI.out.ks
              subst hvk
              have hc0 := fun o => ((HI.out.alloc o).cell (i := 0) rfl).1
              have HI2 : Hid (∀ o, IxSt w ((wr.alloc o).setCell ⟨kB, t.g.toNat, none⟩ (.int .i32 (s.kinds.length : Int))) b w.heap.size (w.heap.size + 1) kB (m + 1) (ixc (.slice ak s.kinds.length ck) nl nl w.heap.size (w.heap.size + 1) nl nl) { s with kindOf := Idx.upd s.kindOf t.g s.kinds.length } (.slice ak s.kinds.length ck) (.slice ac s.count.length cc)) := fun o => by
                have := (HI.out.alloc o).setKof t.g.toNat s.kinds.length
                rwa [Int.toNat_of_nonneg hg1] at this
              have hbx : ((wr.alloc (.cells #[.int .i64 t.g, .slice t.a t.l t.c, .float .f64 t.wt] 73)).setCell ⟨kB, t.g.toNat, none⟩ (.int .i32 (s.kinds.length : Int))).heap[wr.heap.size]? = some (.cells #[.int .i64 t.g, .slice t.a t.l t.c, .float .f64 t.wt] 73 (0, 0)) :=
                (heap_setCell_other _ _ _ _ (fun e : wr.heap.size = kB => by have := HI.out.core.kof.lt; omega)).trans (heap_alloc_new wr _)
              have HR : Hid (R16 w ((wr.alloc (.cells #[.int .i64 t.g, .slice t.a t.l t.c, .float .f64 t.wt] 73)).setCell ⟨kB, t.g.toNat, none⟩ (.int .i32 (s.kinds.length : Int))) b w.heap.size (w.heap.size + 1) kB (m + 1) (ixc (.slice ak s.kinds.length ck) nl nl w.heap.size (w.heap.size + 1) nl nl) { s with kindOf := Idx.upd s.kindOf t.g s.kinds.length } (.slice ak s.kinds.length ck) (.slice ac s.count.length cc) t wr.heap.size .zero .zero) :=
                (HI2.out _).r16 t _ hbx (fun e => by have := (own_ty HI.out.ks e).lt; omega) (by show s.kinds.length ≤ 32768; omega) (by show s.count.length ≤ 32768; have := HLC.out; omega)
              clear HI2 HI hbx
              obtain ⟨wx, hwx⟩ : ∃ wx, wx = ((wr.alloc (.cells #[.int .i64 t.g, .slice t.a t.l t.c, .float .f64 t.wt] 73)).setCell ⟨kB, t.g.toNat, none⟩ (.int .i32 (s.kinds.length : Int))) := ⟨_, rfl⟩
              rw [← hwx] at HR
              go_upto_region 16 with fail
              rw [← hwx]
              obtain ⟨y0, y1, y2⟩ := HR.out.cell0 (i := 0) rfl
              have y3 := fun o => (y2 o).1
              have y4 := fun o => (y2 o).2
              have y5 := fun o o' => ((HR.out.core.alloc o).alloc o').blk
              have y6 : ∀ o o', ((wx.alloc o).alloc o').cell? ⟨b, 0, none⟩ = some (.slice ak s.kinds.length ck) := fun o o' => by rw [cell_of_row _ _ _ _ _ _ (y5 o o')]; rfl
              have y7 : ∀ o o', ((wx.alloc o).alloc o').frozen? ⟨b, 0, none⟩ = false := fun o o' => frozen_of_row _ _ _ _ _ (y5 o o')
              clear hwx y2 y5
              go_cut [8, 42] from 42 to 127 (fun v i wz => i = .int .i64 j ∧ ∃ wy gk cx gc c, v = .slice (some ⟨gc, 0, none⟩) (s.count.length + 1) c ∧ wz = wy.setCell ⟨b, 0, none⟩ (.slice (some ⟨gk, 0, none⟩) (s.kinds.length + 1) cx) ∧ Hid (R16 w wy b w.heap.size (w.heap.size + 1) kB (m + 1) (ixc (.slice ak s.kinds.length ck) nl nl w.heap.size (w.heap.size + 1) nl nl) { s with kindOf := Idx.upd s.kindOf t.g s.kinds.length } (.slice ak s.kinds.length ck) (.slice ac s.count.length cc) t wr.heap.size (.done (.slice (some ⟨gk, 0, none⟩) (s.kinds.length + 1) cx)) (.done (.slice (some ⟨gc, 0, none⟩) (s.count.length + 1) c))))
              case first =>
                obtain ⟨z0, z1, z2⟩ := HR.out.bx3
                have za := fun o => (bx_of (((Below.heap_alloc wx o _ HR.out.bxlt)).trans HR.out.box) : Bx _ _ t)
                have za0 := fun o => (za o).1
                have za1 := fun o => (za o).2.1
                have za2 := fun o => (za o).2.2
                clear za
                go_region_law
                  (first
                    | (refine R16.stepA (w := w) (b := b) (hm := w.heap.size) (lm := w.heap.size + 1) (kB := kB) (N := m + 1) (cs := ixc (.slice ak s.kinds.length ck) nl nl w.heap.size (w.heap.size + 1) nl nl) (s := { s with kindOf := Idx.upd s.kindOf t.g s.kinds.length }) (vk := .slice ak s.kinds.length ck) (vc := .slice ac s.count.length cc) (t := t) (bx := wr.heap.size) rfl (.tmp 70) (.tmp 72) rfl (by first | (with_reducible exact HR.out) | (with_reducible exact HR.out.allocA.drew) | (with_reducible exact HR.out.allocAB.drew) | (with_reducible exact HR.out.allocBA.drew) | (with_reducible exact HR.out.allocA)) rfl rfl ?_; intro gk ck2 w3 HR3; have HR : Hid _ := HR3; obtain ⟨y0, y1, y2⟩ := HR.out.cell0 (i := 0) rfl; have y3 := fun o => (y2 o).1; have y4 := fun o => (y2 o).2; obtain ⟨z0, z1, z2⟩ := HR.out.bx3; clear y2 HR3)
                    | (refine R16.stepB (w := w) (b := b) (hm := w.heap.size) (lm := w.heap.size + 1) (kB := kB) (N := m + 1) (cs := ixc (.slice ak s.kinds.length ck) nl nl w.heap.size (w.heap.size + 1) nl nl) (s := { s with kindOf := Idx.upd s.kindOf t.g s.kinds.length }) (vk := .slice ak s.kinds.length ck) (vc := .slice ac s.count.length cc) (t := t) (bx := wr.heap.size) rfl (.tmp 74) (.tmp 75) rfl (by first | (with_reducible exact HR.out) | (with_reducible exact HR.out.allocB.drew) | (with_reducible exact HR.out.allocAB.drew) | (with_reducible exact HR.out.allocBA.drew) | (with_reducible exact HR.out.allocB)) rfl rfl ?_; intro gc c3 w3 HR3; have HR : Hid _ := HR3; obtain ⟨y0, y1, y2⟩ := HR.out.cell0 (i := 0) rfl; have y3 := fun o => (y2 o).1; have y4 := fun o => (y2 o).2; obtain ⟨z0, z1, z2⟩ := HR.out.bx3; clear y2 HR3))
                all_goals (try go_wp2_with fail)
                all_goals go_meet
                all_goals exact ⟨rfl, _, _, _, _, _, rfl, rfl, HR⟩
              case rest =>
                obtain ⟨rfl, wy, gk, cx, gc, c, rfl, rfl, HR2⟩ := hcut
                have HI3 := HR2.out.fin
                have HBX := HR2.out.boxs (.slice (some ⟨gk, 0, none⟩) (s.kinds.length + 1) cx)
                generalize wy.setCell ⟨b, 0, none⟩ (.slice (some ⟨gk, 0, none⟩) (s.kinds.length + 1) cx) = wz at HI3 HBX ⊢
                have HI3 : Hid (IxSt w wz b w.heap.size (w.heap.size + 1) kB (m + 1) (ixc (.slice (some ⟨gk, 0, none⟩) (s.kinds.length + 1) cx) nl nl w.heap.size (w.heap.size + 1) nl nl) { s with kindOf := Idx.upd s.kindOf t.g s.kinds.length, kinds := s.kinds ++ [t], count := s.count ++ [0] } (.slice (some ⟨gk, 0, none⟩) (s.kinds.length + 1) cx) (.slice (some ⟨gc, 0, none⟩) (s.count.length + 1) c)) := HI3
                obtain ⟨z0, z1, z2⟩ := bx_of HBX
                have HBX : Hid (wz.heap[wr.heap.size]? = some (.cells #[.int .i64 t.g, .slice t.a t.l t.c, .float .f64 t.wt] 73 (0, 0))) := HBX
                clear HR2 HR y0 y1 y3 y4 y6 y7 hk1 hk2 hc0 q0 q1 q2 hst
                by_cases hl0 : t.l = 0
                · have hch : t.chs = [] := List.eq_nil_of_length_eq_zero (by rw [HCh.out.1]; exact hl0)
                  have HCE : Hid (t.chs = []) := hch
                  obtain ⟨c4, f4⟩ := HI3.out.cell (i := 4) rfl
                  obtain ⟨w4, hmu, HI4, hbut⟩ := (HI3.out.drewN 1).setLess t.g s.kinds.length
                  have hmu : (Instr.mapUpdate 81 (.map (some (w.heap.size + 1))) (.int .i64 t.g) (.int .i32 (s.kinds.length : Int))).run Try.prog wz.drew = .ok () w4 := hmu
                  have hne4 : wr.heap.size ≠ w.heap.size + 1 := Ty.ne_map (e := 73) ⟨_, _, HBX.out⟩ HI3.out.core.less.mp
                  obtain ⟨z0', z1', z2'⟩ := bx_of (t := t) ((hbut.block wr.heap.size hne4).trans HBX.out)
                  have HJ : Hid (IxSt w w4 b w.heap.size (w.heap.size + 1) kB (m + 1) (ixc (.slice (some ⟨gk, 0, none⟩) (s.kinds.length + 1) cx) nl nl w.heap.size (w.heap.size + 1) nl nl) (s.more t) (.slice (some ⟨gk, 0, none⟩) (s.kinds.length + 1) cx) (.slice (some ⟨gc, 0, none⟩) (s.count.length + 1) c)) := by
                    refine HI4.congr ?_
                    unfold Ix.more
                    rw [HCE.out]
                    rfl
                  have hkf : (s.more t).kindOf t.g = ((s.kinds.length : Nat) : Int) := by simp [Ix.more, Idx.upd]
                  have hz : (s.more t).count.getD s.kinds.length 0 = 0 := by
                    show (s.count ++ [0]).getD s.kinds.length 0 = 0
                    rw [← HLC.out]; simp
                  obtain ⟨gb, cb, e1, x0, x1, HB3⟩ := HJ.out.bumpf t.g s.kinds.length hkf (by show s.kinds.length < (s.count ++ [0]).length; rw [← HLC.out]; simp)
                  obtain ⟨e3, e5, e4⟩ := Value.slice.inj e1
                  cases e3
                  subst e4
                  have x2 := (HJ.out.core.kof.cell (i := t.g.toNat) (by omega)).1
                  rw [Int.toNat_of_nonneg hg1, hkf] at x2
                  rw [hz] at x0 HB3
                  have hcl : (ixOf (ts.take (j + 1))).count.length = s.count.length + 1 := by
                    rw [HStep.out, Ix.step, if_neg h0, if_pos hk]
                    simp [Ix.bump, Ix.more]
                  have HFin : Hid (IxSt w (w4.setCell ⟨gc, s.kinds.length, none⟩ (.int .i32 1)) b w.heap.size (w.heap.size + 1) kB (m + 1) (ixc (.slice (some ⟨gk, 0, none⟩) (s.kinds.length + 1) cx) nl nl w.heap.size (w.heap.size + 1) nl nl) (ixOf (ts.take (j + 1))) (.slice (some ⟨gk, 0, none⟩) (s.kinds.length + 1) cx) (.slice (some ⟨gc, 0, none⟩) (s.count.length + 1) c)) := by
                    rw [HStep.out, Ix.step, if_neg h0, if_pos hk]
                    exact HB3
                  have HCL : Hid ((ixOf (ts.take (j + 1))).count.length = s.count.length + 1) := hcl
                  have hKlt : s.kinds.length < s.count.length + 1 := by have := HLC.out; omega
                  clear hbut HI4 hch hkf hz HB3 HJ HI3 hcl e1 e5
                  go_wp2
                  go_region
                  all_goals
                    go_wp2
                    refine wp_loop_rounds 1 ?_
                    rw [rounds_succ]
                    go_wp2
                    refine ⟨⟨j + 1, by omega, by go_num, .slice (some ⟨gk, 0, none⟩) (s.kinds.length + 1) cx, _, _, by rw [HCL.out], ?_⟩, by simp [intOf]; omega⟩
                    rw [HCL.out]; exact HFin
                · have hcn : t.chs ≠ [] := fun e => hl0 (by rw [← HCh.out.1, e]; rfl)
                  have HL0 : Hid (IxSt w wz b w.heap.size (w.heap.size + 1) kB (m + 1) (ixc (.slice (some ⟨gk, 0, none⟩) (s.kinds.length + 1) cx) nl nl w.heap.size (w.heap.size + 1) nl nl) { s with kindOf := Idx.upd s.kindOf t.g s.kinds.length, kinds := s.kinds ++ [t], count := s.count ++ [0], hd := (t.chs.take 0).foldl (Hd.step s.kinds.length) s.hd } (.slice (some ⟨gk, 0, none⟩) (s.kinds.length + 1) cx) (.slice (some ⟨gc, 0, none⟩) (s.count.length + 1) c)) := HI3.out
                  have HBox : Hid (wz.heap[wr.heap.size]? = some (.cells #[.int .i64 t.g, .slice t.a t.l t.c, .float .f64 t.wt] 73 (0, 0))) := HBX.out
                  obtain ⟨bx, hbx⟩ : ∃ bx, bx = wr.heap.size := ⟨_, rfl⟩
                  obtain ⟨cb, co, hta, hcb, hcc⟩ := (HC.out.chs j t ht).2 (by omega)
                  have HCC : Hid (∀ (j : Nat) (r m : Int) (x : Nat), t.chs[j]? = some (r, m, x) → w.cell? ⟨cb, co + j * 3, none⟩ = some (.int .i32 r) ∧ w.cell? ⟨cb, co + j * 3 + 1, none⟩ = some (.int .i32 m) ∧ w.cell? ⟨cb, co + j * 3 + 2, none⟩ = some (.float .f64 x)) := hcc
                  have HCL0 : Hid (t.chs.length = t.l) := HCh.out.1
                  have HCN : Hid (t.chs ≠ []) := hcn
                  rw [← hbx] at HBox z0 z1 z2
                  clear HI3 HBX HCh hcc hcn
                  rw [← hbx]
                  clear hbx
                  go_wp2
                  go_loopw [93] (fun i wr => ∃ q : Nat, q ≤ t.l ∧ i = .int .i64 q ∧ Hid (wr.heap[bx]? = some (.cells #[.int .i64 t.g, .slice t.a t.l t.c, .float .f64 t.wt] 73 (0, 0))) ∧ Hid (IxSt w wr b w.heap.size (w.heap.size + 1) kB (m + 1) (ixc (.slice (some ⟨gk, 0, none⟩) (s.kinds.length + 1) cx) nl nl w.heap.size (w.heap.size + 1) nl nl) { s with kindOf := Idx.upd s.kindOf t.g s.kinds.length, kinds := s.kinds ++ [t], count := s.count ++ [0], hd := (t.chs.take q).foldl (Hd.step s.kinds.length) s.hd } (.slice (some ⟨gk, 0, none⟩) (s.kinds.length + 1) cx) (.slice (some ⟨gc, 0, none⟩) (s.count.length + 1) c))) (fun i _ => t.l - (intOf i).toNat)
                  case atStart => exact ⟨0, Nat.zero_le _, rfl, HBox, HL0⟩
                  case round =>
                    obtain ⟨q, hq, rfl, HBq, HS⟩ := hrel
                    clear HL0 HBox z0 z1 z2
                    obtain ⟨z0, z1, z2⟩ := bx_of HBq.out
                    by_cases hql : q < t.l
                    · obtain ⟨⟨r, mm, x⟩, hch⟩ : ∃ ch, t.chs[q]? = some ch := ⟨_, List.getElem?_eq_getElem (by rw [HCL0.out]; exact hql)⟩
                      obtain ⟨p0, p1, p2⟩ := HCC.out q r mm x hch
                      have hbq := HS.out.core.bel
                      have p0 := (hbq.cell (p := ⟨cb, co + q * 3, none⟩) hcb).trans p0
                      have p1 := (hbq.cell (p := ⟨cb, co + q * 3 + 1, none⟩) hcb).trans p1
                      have p2 := (hbq.cell (p := ⟨cb, co + q * 3 + 2, none⟩) hcb).trans p2
                      have hst2 := store_float wr (.int .i32 r) (.int .i32 mm) 0 x 68
                      have HFold : Hid ((t.chs.take (q + 1)).foldl (Hd.step s.kinds.length) s.hd = ((t.chs.take q).foldl (Hd.step s.kinds.length) s.hd).step s.kinds.length (r, mm, x)) := by
                        have hql' : q < t.chs.length := (List.getElem?_eq_some_iff.1 hch).1
                        have hge : t.chs[q] = (r, mm, x) := by rw [List.getElem?_eq_getElem hql'] at hch; exact Option.some.inj hch
                        show _ = _
                        rw [List.take_succ_eq_append_getElem hql', List.foldl_append, hge]
                        rfl
                      have hdl : (((t.chs.take q).foldl (Hd.step s.kinds.length) s.hd).h r).length ≤ 4294967296 := by
                        have h1 := hd_len s.kinds.length (t.chs.take q) r s.hd
                        have h2 := HLen.out r
                        have h3 : (t.chs.take q).length ≤ t.l := by simp; omega
                        omega
                      obtain ⟨hd, hhd⟩ : ∃ hd, hd = (t.chs.take q).foldl (Hd.step s.kinds.length) s.hd := ⟨_, rfl⟩
                      rw [← hhd] at HFold hdl HS
                      have HSv : Hid (IxSt w (wr.alloc (.cells #[.int .i32 r, .int .i32 mm, .float .f64 x] 68)) b w.heap.size (w.heap.size + 1) kB (m + 1) (ixc (.slice (some ⟨gk, 0, none⟩) (s.kinds.length + 1) cx) nl nl w.heap.size (w.heap.size + 1) nl nl) { s with kindOf := Idx.upd s.kindOf t.g s.kinds.length, kinds := s.kinds ++ [t], count := s.count ++ [0], hd := hd } (.slice (some ⟨gk, 0, none⟩) (s.kinds.length + 1) cx) (.slice (some ⟨gc, 0, none⟩) (s.count.length + 1) c)) := HS.out.alloc _
                      have hbn := heap_alloc_new wr (.cells #[.int .i32 r, .int .i32 mm, .float .f64 x] 68)
                      have HBv : Hid ((wr.alloc (.cells #[.int .i32 r, .int .i32 mm, .float .f64 x] 68)).heap[bx]? = some (.cells #[.int .i64 t.g, .slice t.a t.l t.c, .float .f64 t.wt] 73 (0, 0))) := (Below.heap_alloc _ _ _ (Array.getElem?_eq_some_iff.1 HBq.out).1).trans HBq.out
                      obtain ⟨wv, hwv⟩ : ∃ wv, wv = wr.alloc (.cells #[.int .i32 r, .int .i32 mm, .float .f64 x] 68) := ⟨_, rfl⟩
                      rw [← hwv] at HSv hbn HBv
                      obtain ⟨F, hF⟩ := HSv.out.core.hold
                      have hF : HMap w.heap.size wv w.heap.size hd F := hF
                      obtain ⟨ua, uc, hu⟩ := own_shape (hF.cur r)
                      have hlk0 : (Instr.lookup 80 (.map (some w.heap.size)) (.int .i32 r) false).run Try.prog wv.drew = .ok (.slice ua (hd.h r).length uc) wv.drew := by
                        have := (hF.map.of_heap (w' := wv.drew) rfl).look (P := Try.prog) Try.underlying80 Try.underlying21 (zero84 _) r
                        rw [this, ← hu]
                      have hlk1 : ∀ o, (Instr.lookup 80 (.map (some w.heap.size)) (.int .i32 r) false).run Try.prog (wv.alloc o).drew = .ok (.slice ua (hd.h r).length uc) (wv.alloc o).drew := fun o => by
                        have := (hF.map.of_heap (w' := (wv.alloc o).drew) (Below.heap_alloc _ _ _ hF.map.lt)).look (P := Try.prog) Try.underlying80 Try.underlying21 (zero84 _) r
                        rw [this, ← hu]
                      have h3a : Three wv b w.heap.size wr.heap.size r mm := ⟨(HSv.out.cell (i := 3) rfl).1, by rw [cell_of_row _ _ _ _ _ _ hbn]; rfl, by rw [cell_of_row _ _ _ _ _ _ hbn]; rfl⟩
                      have HTa : Hid (Three wv.drew b w.heap.size wr.heap.size r mm) := h3a
                      have HTb : Hid (∀ o, Three (wv.alloc o).drew b w.heap.size wr.heap.size r mm) := fun o => h3a.of (Below.heap_alloc _ _ _ HSv.out.core.tyb.lt) (Below.heap_alloc _ _ _ (Array.getElem?_eq_some_iff.1 hbn).1)
                      have HF : Hid (HMap w.heap.size wv w.heap.size hd F) := hF
                      have HU : Hid ((F r).getD (.slice none 0 0) = .slice ua (hd.h r).length uc) := hu
                      have hfa : Far wv w.heap.size b := HSv.out.core.tyb.far (by decide) hF.map.mp
                      have hfb : Far wv w.heap.size wr.heap.size := Ty.far (e := 68) ⟨_, _, hbn⟩ (by decide) hF.map.mp
                      have hfc : Far wv w.heap.size bx := Ty.far (e := 73) ⟨_, _, HBv.out⟩ (by decide) hF.map.mp
                      have HFar : Hid (Far wv w.heap.size b ∧ Far wv w.heap.size wr.heap.size ∧ Far wv w.heap.size bx) := ⟨hfa, hfb, hfc⟩
                      have HHd : Hid (hd = (t.chs.take q).foldl (Hd.step s.kinds.length) s.hd) := hhd
                      obtain ⟨bc, hbc⟩ : ∃ bc, bc = wr.heap.size := ⟨_, rfl⟩
                      have HT3 : Hid (Three wv b w.heap.size wr.heap.size r mm) := h3a
                      have hHDL : Hid ((hd.h r).length ≤ 4294967296) := hdl
                      clear hbn hF hu h3a hfa hfb hfc hch hhd HS HBq hdl hbq
                      go_upto_region 22 with fail
                      rw [← hwv, ← hbc]
                      rw [← hbc] at HTa HTb HFar HT3
                      clear hwv hbc hst2 p0 p1 p2 z0 z1 z2
                      go_region_held3 (fun wz => wz.cell? ⟨b, 3, none⟩ = some (.map (some w.heap.size)) ∧ wz.cell? ⟨bc, 0, none⟩ = some (.int .i32 r) ∧ wz.cell? ⟨bc, 1, none⟩ = some (.int .i32 mm))
                        (first | (with_reducible exact HTa.out) | (with_reducible exact HTb.out _) | (with_reducible exact HTc.out) | (with_reducible exact HTd.out))
                        ((refine stepH (w := w) (wv := wv) (b := b) (hm := w.heap.size) (lm := w.heap.size + 1) (kB := kB) (N := m + 1) (cs := ixc (.slice (some ⟨gk, 0, none⟩) (s.kinds.length + 1) cx) nl nl w.heap.size (w.heap.size + 1) nl nl) (s := { s with kindOf := Idx.upd s.kindOf t.g s.kinds.length, kinds := s.kinds ++ [t], count := s.count ++ [0], hd := hd }) (vk := .slice (some ⟨gk, 0, none⟩) (s.kinds.length + 1) cx) (vc := .slice (some ⟨gc, 0, none⟩) (s.count.length + 1) c) (F := F) (ua := ua) (uc := uc) (s.kinds.length : Int) (r, mm, x) rfl (.tmp 109) (.tmp 114) rfl HSv.out HF.out HU.out hHDL.out rfl rfl ?_; intro g cap w3 w4 hmu HS4 hfr; have hmu : (Instr.mapUpdate 80 (.map (some w.heap.size)) (.int .i32 r) (.slice (some ⟨g, 0, none⟩) ((hd.h r).length + 1) cap)).run Try.prog w3 = .ok () w4 := hmu; have HTc : Hid (Three w3 b w.heap.size bc r mm) := HT3.out.of (hfr b HFar.out.1).1 (hfr bc HFar.out.2.1).1; have HTd : Hid (Three w4 b w.heap.size bc r mm) := HT3.out.of (hfr b HFar.out.1).2 (hfr bc HFar.out.2.1).2; have HBx4 : Hid (w4.heap[bx]? = some (.cells #[.int .i64 t.g, .slice t.a t.l t.c, .float .f64 t.wt] 73 (0, 0))) := (hfr bx HFar.out.2.2).2.trans HBv.out; have HS5 : Hid _ := HS4; clear hfr HS4))
                      all_goals
                        go_wp2
                        refine ⟨⟨q + 1, by omega, by go_num, HBx4, by rw [HFold.out]; exact HS5.out⟩, by simp [intOf]; omega⟩
                    · obtain rfl : t.l = q := by omega
                      have HJ : Hid (IxSt w wr b w.heap.size (w.heap.size + 1) kB (m + 1) (ixc (.slice (some ⟨gk, 0, none⟩) (s.kinds.length + 1) cx) nl nl w.heap.size (w.heap.size + 1) nl nl) (s.more t) (.slice (some ⟨gk, 0, none⟩) (s.kinds.length + 1) cx) (.slice (some ⟨gc, 0, none⟩) (s.count.length + 1) c)) := by
                        refine HS.out.congr ?_
                        unfold Ix.more
                        rw [if_neg HCN.out, if_neg HCN.out, List.take_of_length_le (by rw [HCL0.out]; exact Nat.le_refl _)]
                      have hkf : (s.more t).kindOf t.g = ((s.kinds.length : Nat) : Int) := by simp [Ix.more, Idx.upd]
                      have hz : (s.more t).count.getD s.kinds.length 0 = 0 := by
                        show (s.count ++ [0]).getD s.kinds.length 0 = 0
                        rw [← HLC.out]; simp
                      obtain ⟨gb, cb, e1, x0, x1, HB3⟩ := HJ.out.bumpf t.g s.kinds.length hkf (by show s.kinds.length < (s.count ++ [0]).length; rw [← HLC.out]; simp)
                      obtain ⟨e3, e5, e4⟩ := Value.slice.inj e1
                      cases e3
                      subst e4
                      have x2 := (HJ.out.core.kof.cell (i := t.g.toNat) (by omega)).1
                      rw [Int.toNat_of_nonneg hg1, hkf] at x2
                      rw [hz] at x0 HB3
                      have hcl : (ixOf (ts.take (j + 1))).count.length = s.count.length + 1 := by
                        rw [HStep.out, Ix.step, if_neg h0, if_pos hk]
                        simp [Ix.bump, Ix.more]
                      have HFin : Hid (IxSt w (wr.setCell ⟨gc, s.kinds.length, none⟩ (.int .i32 1)) b w.heap.size (w.heap.size + 1) kB (m + 1) (ixc (.slice (some ⟨gk, 0, none⟩) (s.kinds.length + 1) cx) nl nl w.heap.size (w.heap.size + 1) nl nl) (ixOf (ts.take (j + 1))) (.slice (some ⟨gk, 0, none⟩) (s.kinds.length + 1) cx) (.slice (some ⟨gc, 0, none⟩) (s.count.length + 1) c)) := by
                        rw [HStep.out, Ix.step, if_neg h0, if_pos hk]
                        exact HB3
                      have HCL : Hid ((ixOf (ts.take (j + 1))).count.length = s.count.length + 1) := hcl
                      have hKlt : s.kinds.length < s.count.length + 1 := by have := HLC.out; omega
                      clear hkf hz HB3 HJ HS hcl e1 e5 HBq
                      go_wp2
                      refine ⟨⟨j + 1, by omega, by go_num, .slice (some ⟨gk, 0, none⟩) (s.kinds.length + 1) cx, _, _, by rw [HCL.out], ?_⟩, by simp [intOf]; omega⟩
                      rw [HCL.out]; exact HFin
            · obtain ⟨kk, hkk⟩ := Int.eq_ofNat_of_zero_le (show 0 ≤ s.kindOf t.g by omega)
              have hkl : kk < s.kinds.length := by
                rcases HOk.out.rng t.g with e | ⟨_, e⟩ <;> omega
              have hnum := HOk.out.num kk hkl
              have hcnt : cnt s.kindOf (ts.take j) kk ≤ j := by
                have h1 := List.length_filter_le (fun t => decide (t.g ≠ 0) && decide (s.kindOf t.g = (kk : Int))) (ts.take j)
                have h2 : (ts.take j).length ≤ j := by simp; omega
                unfold cnt
                omega
              have hgd : s.count.getD kk 0 = (cnt s.kindOf (ts.take j) kk : Int) := by rw [List.getD_eq_getElem?_getD, hnum]; rfl
              obtain ⟨cq, hcq⟩ : ∃ cq : Nat, cq = cnt s.kindOf (ts.take j) kk := ⟨_, rfl⟩
              rw [← hcq] at hgd hcnt
              obtain ⟨gc, cb, e1, x0, x1, HB3⟩ := (HI.out.alloc (.cells #[.int .i64 t.g, .slice t.a t.l t.c, .float .f64 t.wt] 73)).bumpf t.g kk hkk (by rw [HLC.out]; exact hkl)
              obtain ⟨e3, e5, e4⟩ := Value.slice.inj e1
              subst e3 e4
              rw [hgd] at x0 HB3
              have hcl : (ixOf (ts.take (j + 1))).count.length = s.count.length := by
                rw [HStep.out, Ix.step, if_neg h0, if_neg hk]
                simp [Ix.bump]
              have HFin : Hid (IxSt w ((wr.alloc (.cells #[.int .i64 t.g, .slice t.a t.l t.c, .float .f64 t.wt] 73)).setCell ⟨gc, kk, none⟩ (.int .i32 ((cq : Int) + 1))) b w.heap.size (w.heap.size + 1) kB (m + 1) (ixc vk nl nl w.heap.size (w.heap.size + 1) nl nl) (ixOf (ts.take (j + 1))) vk (.slice (some ⟨gc, 0, none⟩) s.count.length cc)) := by
                rw [HStep.out, Ix.step, if_neg h0, if_neg hk]
                exact HB3
              have HCL : Hid ((ixOf (ts.take (j + 1))).count.length = s.count.length) := hcl
              have hKlt : kk < s.count.length := by have := HLC.out; omega
              simp only [hkk] at hk1
              clear HB3 HI hcl e1 e5 hk hkk hnum hgd hcq
              go_wp2
              refine ⟨⟨j + 1, by omega, by go_num, vk, _, _, by rw [HCL.out], ?_⟩, by simp [intOf]; omega⟩
              rw [HCL.out]; exact HFin
        · obtain rfl : n = j := by omega
          have htn : ts.take n = ts := List.take_of_length_le (by rw [HC.out.len]; exact Nat.le_refl _)
          rw [htn] at HI
          rw [htn]
          have HOk : Hid (Ok (ixOf ts) ts) := ok_ixOf ts
          have HFr : Hid (∀ k, k ≤ (ixOf ts).count.length → 0 ≤ first (ixOf ts).count k ∧ first (ixOf ts).count k ≤ n) := fun k hk => by
            have := first_rng ts k hk
            rw [HC.out.len] at this
            exact this
          have HNx : Hid (∀ (j : Nat) (t : Ct), ts[j]? = some t → t.g ≠ 0 → ∃ k : Nat, (ixOf ts).kindOf t.g = (k : Int) ∧ k < (ixOf ts).kinds.length ∧ 0 ≤ (memAt (ixOf ts).kindOf (ixOf ts).count ts j).2 k ∧ (memAt (ixOf ts).kindOf (ixOf ts).count ts j).2 k < first (ixOf ts).count (ixOf ts).count.length) := fun j t h1 h2 => next_lt ts j t h1 h2
          have HPost : Hid (∀ wz, (∃ hm lm kB N vk vc gm gf gs gu M, IxSt w wz b hm lm kB N (ixc vk (.slice (some ⟨gm, 0, none⟩) M M) (.slice (some ⟨gf, 0, none⟩) ((ixOf ts).count.length + 1) ((ixOf ts).count.length + 1)) hm lm (.slice (some ⟨gs, 0, none⟩) (ixOf ts).count.length (ixOf ts).count.length) (.slice (some ⟨gu, 0, none⟩) (ixOf ts).count.length (ixOf ts).count.length)) (ixOf ts) vk vc ∧
              first (ixOf ts).count (ixOf ts).count.length = (M : Nat) ∧ VRow wz gm M 21 (fun i => .int .i32 ((memAt (ixOf ts).kindOf (ixOf ts).count ts n).1 i)) ∧ VRow wz gf ((ixOf ts).count.length + 1) 21 (fun i => .int .i32 (first (ixOf ts).count i)) ∧
              VRow wz gs (ixOf ts).count.length 40 (fun _ => .float .f64 0) ∧ VRow wz gu (ixOf ts).count.length 21 (fun _ => .int .i32 0)) → IndexAt w wz b ts) := fun wz h => by
            unfold IndexAt
            rw [HC.out.len]
            exact h
          obtain ⟨s, hs⟩ : ∃ s, s = ixOf ts := ⟨_, rfl⟩
          rw [← hs] at HI HOk HFr HNx HPost
          rw [← hs]
          have hck : s.kinds.length = s.count.length := HOk.out.len.symm
          have hKn : s.count.length ≤ n := by have := HOk.out.le; rw [HC.out.len] at this; omega
          obtain ⟨ak, ck, hvk⟩ := own_shape HI.out.ks
          rw [hck] at hvk
          subst hvk
          obtain ⟨K, hKd⟩ : ∃ K, K = s.count.length := ⟨_, rfl⟩
          rw [← hKd] at HI HFr hKn HNx HPost
          rw [← hKd]
          have HK : Hid (K = s.count.length ∧ s.kinds.length = K) := ⟨hKd, by rw [hck, hKd]⟩
          clear hs htn hck hKd HI0 hj hlt
          obtain ⟨M1, hmk1, hMv1⟩ := make21 (K + 1) (by omega)
          have hmk1 : ∀ w : World, (Instr.makeSlice 30 (.int .i64 ((K : Int) + 1)) (.int .i64 ((K : Int) + 1))).run Try.prog w = .ok (.slice (some ⟨w.heap.size, 0, none⟩) (K + 1) (K + 1)) (w.alloc (.cells M1 21)) := hmk1
          have hb2 := fun o => ((HI.out.alloc o).cell (i := 2) rfl).1
          have hb3 := fun o => ((HI.out.alloc o).cell (i := 2) rfl).2
          obtain ⟨f, hf⟩ : ∃ f, f = wr.heap.size := ⟨_, rfl⟩
          have HI2 : Hid (IxSt w ((wr.alloc (.cells M1 21)).setCell ⟨b, 2, none⟩ (.slice (some ⟨f, 0, none⟩) (K + 1) (K + 1))) b w.heap.size (w.heap.size + 1) kB (m + 1) (ixc (.slice ak K ck) nl (.slice (some ⟨f, 0, none⟩) (K + 1) (K + 1)) w.heap.size (w.heap.size + 1) nl nl) s (.slice ak K ck) (.slice ac K cc)) := (HI.out.alloc _).setB 2 _
          have HV0 : Hid (VRow ((wr.alloc (.cells M1 21)).setCell ⟨b, 2, none⟩ (.slice (some ⟨f, 0, none⟩) (K + 1) (K + 1))) f (K + 1) 21 (fun i => .int .i32 (if i ≤ 0 then first s.count i else 0))) := by
            have h1 := (hMv1 wr).far (g := b) (fun e => by have := HI.out.core.tyb.lt; omega) 2 (.slice (some ⟨f, 0, none⟩) (K + 1) (K + 1))
            rw [← hf] at h1
            refine h1.congr (fun i _ => ?_)
            by_cases hi : i ≤ 0
            · rw [if_pos hi, show i = 0 by omega]; rfl
            · rw [if_neg hi]
          have hfk : f ≠ kB := fun e => by have := HI.out.core.kof.lt; omega
          have HFC : Hid ((Value.slice ac K cc).ownBlock ≠ some f) := fun e => by have := (own_ty HI.out.cs e).lt; omega
          have hflo : w.heap.size ≤ f := by have := HI.out.core.bel.size; omega
          clear HI hMv1
          go_wp2
          rw [← hf]
          clear hf hmk1 hb2 hb3
          go_loopw [137] (fun i wr => ∃ k : Nat, k ≤ K ∧ i = .int .i64 k ∧ Hid (IxSt w wr b w.heap.size (w.heap.size + 1) kB (m + 1) (ixc (.slice ak K ck) nl (.slice (some ⟨f, 0, none⟩) (K + 1) (K + 1)) w.heap.size (w.heap.size + 1) nl nl) s (.slice ak K ck) (.slice ac K cc)) ∧ Hid (VRow wr f (K + 1) 21 (fun i => .int .i32 (if i ≤ k then first s.count i else 0)))) (fun i _ => K - (intOf i).toNat)
          case atStart => exact ⟨0, Nat.zero_le _, rfl, HI2, HV0⟩
          case round =>
            obtain ⟨k, hk, rfl, HI, HV⟩ := hrel
            clear HI2 HV0
            by_cases hkl : k < K
            · have hlen : k < (s.count.map (Value.int .i32)).length := by rw [List.length_map, ← HK.out.1]; exact hkl
              obtain ⟨gc, cap, e1, _, _, hcell, _, _⟩ := own_cell HI.out.cs hlen
              obtain ⟨e3, e5, e4⟩ := Value.slice.inj e1
              subst e3 e4
              obtain ⟨cv, hcv⟩ : ∃ cv, s.count[k]? = some cv := ⟨_, List.getElem?_eq_getElem (by rw [← HK.out.1]; exact hkl)⟩
              have x0 := hcell k (.int .i32 cv) (by rw [List.getElem?_map, hcv]; rfl)
              have hfs := first_succ s.count k cv hcv
              obtain ⟨fr1, fr2⟩ := HFr.out (k + 1) (by omega)
              obtain ⟨fr3, fr4⟩ := HFr.out k (by omega)
              rw [hfs] at fr1 fr2
              have HFS : Hid (first s.count (k + 1) = first s.count k + cv) := hfs
              obtain ⟨fk, hfk0⟩ : ∃ fk, fk = first s.count k := ⟨_, rfl⟩
              have x1 := (HI.out.cell (i := 2) rfl).1
              have x2 := (HV.out.cell (i := k) (by omega)).1
              obtain ⟨x3, x4⟩ := HV.out.cell (i := k + 1) (by omega)
              simp only [if_pos (Nat.le_refl k)] at x2
              rw [if_neg (show ¬ k + 1 ≤ k by omega)] at x3
              rw [← hfk0] at x2 fr1 fr2 fr3 fr4 HFS
              have HFK : Hid (fk = first s.count k) := hfk0
              have HIn : Hid (∀ v, IxSt w (wr.setCell ⟨f, k + 1, none⟩ v).drew b w.heap.size (w.heap.size + 1) kB (m + 1) (ixc (.slice ak K ck) nl (.slice (some ⟨f, 0, none⟩) (K + 1) (K + 1)) w.heap.size (w.heap.size + 1) nl nl) s (.slice ak K ck) (.slice (some ⟨gc, 0, none⟩) K cc)) := fun v => (HI.out.put21 hflo HV.out.ty hfk HFC.out (k + 1) v).drewN 1
              have HVn : Hid (VRow (wr.setCell ⟨f, k + 1, none⟩ (.int .i32 (fk + cv))).drew f (K + 1) 21 (fun i => .int .i32 (if i ≤ k + 1 then first s.count i else 0))) := by
                refine ((HV.out.set (k + 1) (.int .i32 (fk + cv))).congr (fun i _ => ?_)).of_heap rfl
                show (if i = k + 1 then Value.int .i32 (fk + cv) else .int .i32 (if i ≤ k then first s.count i else 0)) = _
                by_cases hi : i = k + 1
                · rw [if_pos hi, if_pos (by omega), hi, HFS.out]
                · rw [if_neg hi]
                  by_cases hi2 : i ≤ k
                  · rw [if_pos hi2, if_pos (by omega)]
                  · rw [if_neg hi2, if_neg (by omega)]
              have HXa : Hid (wr.drew.cell? ⟨b, 2, none⟩ = some (.slice (some ⟨f, 0, none⟩) (K + 1) (K + 1)) ∧ wr.drew.cell? ⟨f, k, none⟩ = some (.int .i32 fk)) := ⟨x1, x2⟩
              have HXb : Hid (∀ v, (wr.setCell ⟨f, k + 1, none⟩ v).drew.cell? ⟨b, 2, none⟩ = some (.slice (some ⟨f, 0, none⟩) (K + 1) (K + 1)) ∧ (wr.setCell ⟨f, k + 1, none⟩ v).drew.cell? ⟨f, k, none⟩ = some (.int .i32 fk)) := fun v =>
                ⟨(HIn.out v).cell (i := 2) rfl |>.1, by show (wr.setCell ⟨f, k + 1, none⟩ v).cell? ⟨f, k, none⟩ = _; rw [World.cell?_setCell_other _ _ _ _ (by simp)]; exact x2⟩
              have i0 : (0 : Int) ≤ (k : Int) := by omega
              have i1 : (k : Int) < (K : Int) + 1 := by omega
              have i2 : (0 : Int) ≤ (k : Int) + 1 := by omega
              have i3 : (k : Int) + 1 < (K : Int) + 1 := by omega
              have i4 : IntKind.i64.wrap ((k : Int) + 1) = (k : Int) + 1 := by rw [IntKind.wrap_i64]; omega
              have i5 : IntKind.i32.wrap (fk + cv) = fk + cv := by rw [IntKind.wrap_i32]; omega
              clear hcell hlen hfs hfk0 hcv e1 e5 HI HV
              go_wp2
              go_region_held3 (fun wz => wz.cell? ⟨b, 2, none⟩ = some (.slice (some ⟨f, 0, none⟩) (K + 1) (K + 1)) ∧ wz.cell? ⟨f, k, none⟩ = some (.int .i32 fk))
                (first | (with_reducible exact HXa.out) | (with_reducible exact HXb.out _))
                (fail)
              all_goals
                go_wp2
                refine ⟨⟨k + 1, by omega, by go_num, HIn.out _, HVn⟩, by simp [intOf]; omega⟩
            · obtain rfl : K = k := by omega
              have HVf : Hid (VRow wr f (K + 1) 21 (fun i => .int .i32 (first s.count i))) := HV.out.congr (fun i hi => by rw [if_pos (by omega)])
              obtain ⟨fr1, fr2⟩ := HFr.out K (Nat.le_refl _)
              obtain ⟨M, hM⟩ := Int.eq_ofNat_of_zero_le fr1
              have hMn : M ≤ n := by omega
              have x1 := (HI.out.cell (i := 2) rfl).1
              have hcl := clone_any f K (K + 1) ((List.range K).map (fun i => .int .i32 (first s.count i))) wr (by omega) (by simp) (fun i u hu => by
                rw [List.getElem?_map] at hu
                have hi : i < K := by
                  rcases Nat.lt_or_ge i K with h | h
                  · exact h
                  · rw [List.getElem?_eq_none (by simpa using h)] at hu; cases hu
                rw [List.getElem?_range hi] at hu
                cases hu
                exact (HVf.out.cell (i := i) (by omega)).1) (fun u hu => by
                obtain ⟨i, _, rfl⟩ := List.mem_map.1 hu
                rfl) HV.out.lt
              have HCl : Hid (Calls Try.prog 44 #[.slice (some ⟨f, 0, none⟩) K (K + 1)] wr fun e w' => ∃ v, e = .returned v ∧ w'.ownsRow wr.heap.size 21 1 v K ((List.range K).map (fun i => .int .i32 (first s.count i))) ∧ v ≠ .slice none 0 0 ∧ Below wr.heap.size wr w') := hcl
              clear hcl HV HFr fr1 fr2 hk hkl
              go_wp2_with fail
              refine HCl.out.mono ?_
              rintro e w7 ⟨v, rfl, hown, hvn, hb7⟩
              obtain ⟨nB, cn, rfl, hnlo, hnv⟩ := own_vrow hown hvn
              have hnv := hnv (fun i => .int .i32 (first s.count i)) (fun i hi => by rw [List.getElem?_map, List.getElem?_range hi]; rfl)
              have HI7 := HI.out.below hb7
              have HVf7 := HVf.out.below hb7
              have hnn : f ≠ nB ∧ kB ≠ nB := ⟨by have := HVf.out.lt; omega, by have := HI.out.core.kof.lt; omega⟩
              have HNC : Hid ((Value.slice ac K cc).ownBlock ≠ some nB) := fun e => by have := (own_ty HI.out.cs e).lt; omega
              have hnlow : w.heap.size ≤ nB := by have := HI.out.core.bel.size; omega
              clear x1
              have x1 := (HI7.cell (i := 2) rfl).1
              have x2 := (HVf7.cell (i := K) (by omega)).1
              have HM : Hid (first s.count K = (M : Int)) := hM
              rw [hM] at x2
              obtain ⟨M2, hmk2, hMv2⟩ := make21w M (by omega)
              have y1 := fun o => ((HI7.alloc o).cell (i := 1) rfl).1
              have y2 := fun o => ((HI7.alloc o).cell (i := 1) rfl).2
              obtain ⟨mB, hmB⟩ : ∃ mB, mB = w7.heap.size := ⟨_, rfl⟩
              have HI8 : Hid (IxSt w ((w7.alloc (.cells M2 21)).setCell ⟨b, 1, none⟩ (.slice (some ⟨mB, 0, none⟩) M M)) b w.heap.size (w.heap.size + 1) kB (m + 1) (ixc (.slice ak K ck) (.slice (some ⟨mB, 0, none⟩) M M) (.slice (some ⟨f, 0, none⟩) (K + 1) (K + 1)) w.heap.size (w.heap.size + 1) nl nl) s (.slice ak K ck) (.slice ac K cc)) := (HI7.alloc _).setB 1 _
              have hbm : b ≠ mB := by have := HI7.core.tyb.lt; omega
              have hmm : f ≠ mB ∧ kB ≠ mB ∧ nB ≠ mB := ⟨by have := HVf7.lt; omega, by have := HI7.core.kof.lt; omega, by have := hnv.lt; omega⟩
              have HMC : Hid ((Value.slice ac K cc).ownBlock ≠ some mB) := fun e => by have := (own_ty HI7.cs e).lt; omega
              have hmlow : w.heap.size ≤ mB := by have := HI7.core.bel.size; omega
              have tb := HI7.core.tyb
              have HVf8 : Hid (VRow ((w7.alloc (.cells M2 21)).setCell ⟨b, 1, none⟩ (.slice (some ⟨mB, 0, none⟩) M M)) f (K + 1) 21 (fun i => .int .i32 (first s.count i))) := (HVf7.alloc _).far (HVf7.ty.ne tb (by decide)) 1 _
              have HVn8 : Hid (VRow ((w7.alloc (.cells M2 21)).setCell ⟨b, 1, none⟩ (.slice (some ⟨mB, 0, none⟩) M M)) nB K 21 (fun i => .int .i32 ((memAt s.kindOf s.count ts 0).2 i))) := (hnv.alloc _).far (hnv.ty.ne tb (by decide)) 1 _
              have HVm8 : Hid (VRow ((w7.alloc (.cells M2 21)).setCell ⟨b, 1, none⟩ (.slice (some ⟨mB, 0, none⟩) M M)) mB M 21 (fun i => .int .i32 ((memAt s.kindOf s.count ts 0).1 i))) := by
                have := (hMv2 w7).far (g := b) (fun e => by omega) 1 (.slice (some ⟨mB, 0, none⟩) M M)
                rw [← hmB] at this
                exact this
              clear hM hown hvn hb7 hnv HI7 HVf7 hMv2 tb HI HVf HCl
              go_wp2
              rw [← hmB]
              clear hmB hmk2 y1 y2 x1 x2
              go_loopw [181] (fun i wr => ∃ j : Nat, j ≤ n ∧ i = .int .i64 j ∧ Hid (IxSt w wr b w.heap.size (w.heap.size + 1) kB (m + 1) (ixc (.slice ak K ck) (.slice (some ⟨mB, 0, none⟩) M M) (.slice (some ⟨f, 0, none⟩) (K + 1) (K + 1)) w.heap.size (w.heap.size + 1) nl nl) s (.slice ak K ck) (.slice ac K cc)) ∧ Hid (VRow wr f (K + 1) 21 (fun i => .int .i32 (first s.count i))) ∧ Hid (VRow wr nB K 21 (fun i => .int .i32 ((memAt s.kindOf s.count ts j).2 i))) ∧ Hid (VRow wr mB M 21 (fun i => .int .i32 ((memAt s.kindOf s.count ts j).1 i)))) (fun i _ => n - (intOf i).toNat)
              case atStart => exact ⟨0, Nat.zero_le _, rfl, HI8, HVf8, HVn8, HVm8⟩
              case round =>
                obtain ⟨j, hj, rfl, HI, HVf, HVn, HVm⟩ := hrel
                clear HI8 HVf8 HVn8 HVm8
                by_cases hlt : j < n
                · obtain ⟨t, ht⟩ : ∃ t, ts[j]? = some t := ⟨_, List.getElem?_eq_getElem (by rw [HC.out.len]; exact hlt)⟩
                  have hmem := List.mem_of_getElem? ht
                  obtain ⟨q0, q1, q2⟩ := HC.out.cell j t ht
                  have hbw := HI.out.core.bel
                  have q0 := (hbw.cell (p := ⟨G, 0 + j * 3, none⟩) HC.out.lt).trans q0
                  have q1 := (hbw.cell (p := ⟨G, 0 + j * 3 + 1, none⟩) HC.out.lt).trans q1
                  have q2 := (hbw.cell (p := ⟨G, 0 + j * 3 + 2, none⟩) HC.out.lt).trans q2
                  simp only [Nat.zero_add] at q0 q1 q2
                  have hst := store_float wr (.int .i64 t.g) (.slice t.a t.l t.c) 0 t.wt 73
                  obtain ⟨hg1, hg2⟩ := HG.out t hmem
                  have hgm := HMX.out t hmem
                  by_cases h0 : t.g = 0
                  · have HNe : Hid (memAt s.kindOf s.count ts (j + 1) = memAt s.kindOf s.count ts j) := memAt_skip _ _ _ _ _ ht h0
                    have HA : Hid (∀ o, IxSt w (wr.alloc o) b w.heap.size (w.heap.size + 1) kB (m + 1) (ixc (.slice ak K ck) (.slice (some ⟨mB, 0, none⟩) M M) (.slice (some ⟨f, 0, none⟩) (K + 1) (K + 1)) w.heap.size (w.heap.size + 1) nl nl) s (.slice ak K ck) (.slice ac K cc) ∧ VRow (wr.alloc o) f (K + 1) 21 (fun i => .int .i32 (first s.count i)) ∧ VRow (wr.alloc o) nB K 21 (fun i => .int .i32 ((memAt s.kindOf s.count ts (j + 1)).2 i)) ∧ VRow (wr.alloc o) mB M 21 (fun i => .int .i32 ((memAt s.kindOf s.count ts (j + 1)).1 i))) := fun o => ⟨HI.out.alloc o, HVf.out.alloc o, by rw [HNe.out]; exact HVn.out.alloc o, by rw [HNe.out]; exact HVm.out.alloc o⟩
                    clear HI HVf HVn HVm hbw hmem
                    go_wp2
                    exact ⟨⟨j + 1, by omega, by go_num, (HA.out _).1, (HA.out _).2.1, (HA.out _).2.2.1, (HA.out _).2.2.2⟩, by simp [intOf]; omega⟩
                  · obtain ⟨k, hk1, hk2, hk3, hk4⟩ := HNx.out j t ht h0
                    rw [HK.out.2] at hk2
                    rw [HM.out] at hk4
                    have hms := memAt_step s.kindOf s.count ts j t ht h0 k hk1
                    obtain ⟨p, hp⟩ := Int.eq_ofNat_of_zero_le hk3
                    rw [hp] at hms hk4
                    have hpM : p < M := by omega
                    have HMS : Hid (memAt s.kindOf s.count ts (j + 1) = (updN (memAt s.kindOf s.count ts j).1 p j, updN (memAt s.kindOf s.count ts j).2 k ((p : Int) + 1))) := by rw [Int.toNat_natCast] at hms; exact hms
                    have hkv := ((HI.out.core.alloc (.cells #[.int .i64 t.g, .slice t.a t.l t.c, .float .f64 t.wt] 73)).kof.cell (i := t.g.toNat) (by omega)).1
                    simp only [Int.toNat_of_nonneg hg1, hk1] at hkv
                    have HIv : Hid (IxSt w (wr.alloc (.cells #[.int .i64 t.g, .slice t.a t.l t.c, .float .f64 t.wt] 73)) b w.heap.size (w.heap.size + 1) kB (m + 1) (ixc (.slice ak K ck) (.slice (some ⟨mB, 0, none⟩) M M) (.slice (some ⟨f, 0, none⟩) (K + 1) (K + 1)) w.heap.size (w.heap.size + 1) nl nl) s (.slice ak K ck) (.slice ac K cc)) := HI.out.alloc _
                    have HVfv : Hid (VRow (wr.alloc (.cells #[.int .i64 t.g, .slice t.a t.l t.c, .float .f64 t.wt] 73)) f (K + 1) 21 (fun i => .int .i32 (first s.count i))) := HVf.out.alloc _
                    have HVnv : Hid (VRow (wr.alloc (.cells #[.int .i64 t.g, .slice t.a t.l t.c, .float .f64 t.wt] 73)) nB K 21 (fun i => .int .i32 ((memAt s.kindOf s.count ts j).2 i))) := HVn.out.alloc _
                    have HVmv : Hid (VRow (wr.alloc (.cells #[.int .i64 t.g, .slice t.a t.l t.c, .float .f64 t.wt] 73)) mB M 21 (fun i => .int .i32 ((memAt s.kindOf s.count ts j).1 i))) := HVm.out.alloc _
                    obtain ⟨wv, hwv⟩ : ∃ wv, wv = wr.alloc (.cells #[.int .i64 t.g, .slice t.a t.l t.c, .float .f64 t.wt] 73) := ⟨_, rfl⟩
                    rw [← hwv] at HIv HVfv HVnv HVmv
                    clear HI HVf HVn HVm hbw hmem hms hk1 hk3
                    go_upto_region 39 with fail
                    rw [← hwv]
                    clear hwv hst hkv q0 q1 q2 hk4
                    have v1 := (HIv.out.cell (i := 1) rfl).1
                    obtain ⟨v2, v2f⟩ := HVnv.out.cell (i := k) hk2
                    rw [hp] at v2
                    obtain ⟨v3, v3f⟩ := HVmv.out.cell (i := p) hpM
                    have n1 : nB ≠ mB := hmm.2.2
                    have n2 : mB ≠ nB := hmm.2.2.symm
                    have HA : Hid (IxSt w ((wv.setCell ⟨mB, p, none⟩ (.int .i32 (j : Int))).setCell ⟨nB, k, none⟩ (.int .i32 ((p : Int) + 1))).drew b w.heap.size (w.heap.size + 1) kB (m + 1) (ixc (.slice ak K ck) (.slice (some ⟨mB, 0, none⟩) M M) (.slice (some ⟨f, 0, none⟩) (K + 1) (K + 1)) w.heap.size (w.heap.size + 1) nl nl) s (.slice ak K ck) (.slice ac K cc) ∧ VRow ((wv.setCell ⟨mB, p, none⟩ (.int .i32 (j : Int))).setCell ⟨nB, k, none⟩ (.int .i32 ((p : Int) + 1))).drew f (K + 1) 21 (fun i => .int .i32 (first s.count i)) ∧ VRow ((wv.setCell ⟨mB, p, none⟩ (.int .i32 (j : Int))).setCell ⟨nB, k, none⟩ (.int .i32 ((p : Int) + 1))).drew nB K 21 (fun i => .int .i32 ((memAt s.kindOf s.count ts (j + 1)).2 i)) ∧ VRow ((wv.setCell ⟨mB, p, none⟩ (.int .i32 (j : Int))).setCell ⟨nB, k, none⟩ (.int .i32 ((p : Int) + 1))).drew mB M 21 (fun i => .int .i32 ((memAt s.kindOf s.count ts (j + 1)).1 i))) := by
                      have a1 := HIv.out.put21 hmlow HVmv.out.ty hmm.2.1.symm HMC.out p (.int .i32 (j : Int))
                      have b1 := HVnv.out.far (g := mB) n1 p (.int .i32 (j : Int))
                      have c1 := HVfv.out.far (g := mB) hmm.1 p (.int .i32 (j : Int))
                      have d1 := HVmv.out.set p (.int .i32 (j : Int))
                      refine ⟨(a1.put21 hnlow b1.ty hnn.2.symm HNC.out k (.int .i32 ((p : Int) + 1))).drewN 1, (c1.far (g := nB) hnn.1 k _).of_heap rfl, ?_, ?_⟩
                      · refine ((b1.set k (.int .i32 ((p : Int) + 1))).congr (fun i _ => ?_)).of_heap rfl
                        rw [HMS.out]
                        show (if i = k then Value.int .i32 ((p : Int) + 1) else _) = .int .i32 (if i = k then (p : Int) + 1 else _)
                        by_cases hi : i = k
                        · rw [if_pos hi, if_pos hi]
                        · rw [if_neg hi, if_neg hi]
                      · refine ((d1.far (g := nB) n2 k (.int .i32 ((p : Int) + 1))).congr (fun i _ => ?_)).of_heap rfl
                        rw [HMS.out]
                        show (if i = p then Value.int .i32 (j : Int) else _) = .int .i32 (if i = p then (j : Int) else _)
                        by_cases hi : i = p
                        · rw [if_pos hi, if_pos hi]
                        · rw [if_neg hi, if_neg hi]
                    have i0 : (0 : Int) ≤ (k : Int) := by omega
                    have i1 : (k : Int) < (K : Int) := by omega
                    have i2 : (0 : Int) ≤ (p : Int) := by omega
                    have i3 : (p : Int) < (M : Int) := by omega
                    have i4 : IntKind.i32.wrap (j : Int) = (j : Int) := by rw [IntKind.wrap_i32]; omega
                    have i5 : IntKind.i32.wrap ((p : Int) + 1) = (p : Int) + 1 := by rw [IntKind.wrap_i32]; omega
                    clear HIv HVfv HVnv HVmv hp
                    go_region
                    all_goals
                      go_wp2
                      exact ⟨⟨j + 1, by omega, by go_num, HA.out.1, HA.out.2.1, HA.out.2.2.1, HA.out.2.2.2⟩, by simp [intOf]; omega⟩
                · obtain rfl : n = j := by omega
                  obtain ⟨MS, hmkS, hvS⟩ := make40 K (by omega)
                  obtain ⟨MU, hmkU, hvU⟩ := make21 K (by omega)
                  have z0 := (HI.out.cell (i := 0) rfl).1
                  have z0a := fun o => ((HI.out.alloc o).cell (i := 0) rfl).1
                  have z5 := fun o o' => (((HI.out.alloc o).alloc o').cell (i := 5) rfl).1
                  have z5f := fun o o' => (((HI.out.alloc o).alloc o').cell (i := 5) rfl).2
                  have z7 := fun o o' => (((HI.out.alloc o).alloc o').cell (i := 7) rfl).1
                  have z7f := fun o o' => (((HI.out.alloc o).alloc o').cell (i := 7) rfl).2
                  have hE : ∀ o o' gs gu, VRow ((wr.alloc o).alloc o') gs K 40 (fun _ => .float .f64 0) → VRow ((wr.alloc o).alloc o') gu K 21 (fun _ => .int .i32 0) → IndexAt w ((((wr.alloc o).alloc o').setCell ⟨b, 5, none⟩ (.slice (some ⟨gs, 0, none⟩) K K)).setCell ⟨b, 7, none⟩ (.slice (some ⟨gu, 0, none⟩) K K)).drew b ts := fun o o' gs gu h1 h2 => by
                    have a1 := (((HI.out.alloc o).alloc o').setB 5 (.slice (some ⟨gs, 0, none⟩) K K)).setB 7 (.slice (some ⟨gu, 0, none⟩) K K)
                    have tb := ((HI.out.alloc o).alloc o').core.tyb
                    have b1 := (HVm.out.alloc o).alloc o'
                    have b2 := (HVf.out.alloc o).alloc o'
                    exact HPost.out _ ⟨_, _, _, _, _, _, _, _, _, _, M, a1.drewN 1, HM.out, ((b1.far (b1.ty.ne tb (by decide)) 5 _).far (b1.ty.ne tb (by decide)) 7 _).of_heap rfl, ((b2.far (b2.ty.ne tb (by decide)) 5 _).far (b2.ty.ne tb (by decide)) 7 _).of_heap rfl, ((h1.far (h1.ty.ne tb (by decide)) 5 _).far (h1.ty.ne tb (by decide)) 7 _).of_heap rfl, ((h2.far (h2.ty.ne tb (by decide)) 5 _).far (h2.ty.ne tb (by decide)) 7 _).of_heap rfl⟩
                  have HEa : Hid (IndexAt w ((((wr.alloc (.cells MS 40)).alloc (.cells MU 21)).setCell ⟨b, 5, none⟩ (.slice (some ⟨wr.heap.size, 0, none⟩) K K)).setCell ⟨b, 7, none⟩ (.slice (some ⟨wr.heap.size + 1, 0, none⟩) K K)).drew b ts) := hE _ _ _ _ ((hvS wr).alloc _) (by have := hvU (wr.alloc (.cells MS 40)); rwa [show (wr.alloc (.cells MS 40)).heap.size = wr.heap.size + 1 by simp] at this)
                  have HEb : Hid (IndexAt w ((((wr.alloc (.cells MU 21)).alloc (.cells MS 40)).setCell ⟨b, 5, none⟩ (.slice (some ⟨wr.heap.size + 1, 0, none⟩) K K)).setCell ⟨b, 7, none⟩ (.slice (some ⟨wr.heap.size, 0, none⟩) K K)).drew b ts) := hE _ _ _ _ (by have := hvS (wr.alloc (.cells MU 21)); rwa [show (wr.alloc (.cells MU 21)).heap.size = wr.heap.size + 1 by simp] at this) ((hvU wr).alloc _)
                  have HEc : Hid (IndexAt w ((((wr.alloc (.cells MS 40)).setCell ⟨b, 5, none⟩ (.slice (some ⟨wr.heap.size, 0, none⟩) K K)).alloc (.cells MU 21)).setCell ⟨b, 7, none⟩ (.slice (some ⟨wr.heap.size + 1, 0, none⟩) K K)).drew b ts) := by
                    have tb0 := (HI.out.alloc (.cells MS 40)).core.tyb
                    have a0 := (HI.out.alloc (.cells MS 40)).setB 5 (.slice (some ⟨wr.heap.size, 0, none⟩) K K)
                    have a1 := (a0.alloc (.cells MU 21)).setB 7 (.slice (some ⟨wr.heap.size + 1, 0, none⟩) K K)
                    have tb := (a0.alloc (.cells MU 21)).core.tyb
                    have b1 := ((HVm.out.alloc (.cells MS 40)).far ((HVm.out.alloc (.cells MS 40)).ty.ne tb0 (by decide)) 5 (.slice (some ⟨wr.heap.size, 0, none⟩) K K)).alloc (.cells MU 21)
                    have b2 := ((HVf.out.alloc (.cells MS 40)).far ((HVf.out.alloc (.cells MS 40)).ty.ne tb0 (by decide)) 5 (.slice (some ⟨wr.heap.size, 0, none⟩) K K)).alloc (.cells MU 21)
                    have h1 := ((hvS wr).far ((hvS wr).ty.ne tb0 (by decide)) 5 (.slice (some ⟨wr.heap.size, 0, none⟩) K K)).alloc (.cells MU 21)
                    have h2 := hvU ((wr.alloc (.cells MS 40)).setCell ⟨b, 5, none⟩ (.slice (some ⟨wr.heap.size, 0, none⟩) K K))
                    rw [show ((wr.alloc (.cells MS 40)).setCell ⟨b, 5, none⟩ (.slice (some ⟨wr.heap.size, 0, none⟩) K K)).heap.size = wr.heap.size + 1 by simp [World.setCell]] at h2
                    exact HPost.out _ ⟨_, _, _, _, _, _, _, _, _, _, M, a1.drewN 1, HM.out, (b1.far (b1.ty.ne tb (by decide)) 7 _).of_heap rfl, (b2.far (b2.ty.ne tb (by decide)) 7 _).of_heap rfl, (h1.far (h1.ty.ne tb (by decide)) 7 _).of_heap rfl, (h2.far (h2.ty.ne tb (by decide)) 7 _).of_heap rfl⟩
                  have z5a := fun o => ((HI.out.alloc o).cell (i := 5) rfl).1
                  have z5b := fun o => ((HI.out.alloc o).cell (i := 5) rfl).2
                  have z0s := fun o v => (((HI.out.alloc o).setB 5 v).cell (i := 0) (v := .slice ak K ck) rfl).1
                  have z7s := fun o v o' => ((((HI.out.alloc o).setB 5 v).alloc o').cell (i := 7) (v := nl) rfl).1
                  have z7t := fun o v o' => ((((HI.out.alloc o).setB 5 v).alloc o').cell (i := 7) (v := nl) rfl).2
                  clear hE hvS hvU HI HVf HVn HVm
                  go_wp2
                  go_region
                  all_goals
                    go_wp2
                    go_ret
                    first
                    | exact ⟨b, rfl, HEa.out⟩
                    | exact ⟨b, rfl, HEb.out⟩
                    | exact ⟨b, rfl, HEc.out⟩
end Go.Proofs.Qxb6600550a.Rad
