/-
  THE WALK OF FnSessionWithSpec.
-/
import Derived.Test.Qxb6604127aCloneReqs
import Derived.Deep.QuietTactic
namespace Go.Proofs.Qxb6604127a
open Go.RowKit

set_option maxHeartbeats 4000000 in
set_option maxRecDepth 100000 in
theorem spec_walk (a0 : Option Addr) (n cap0 : Nat) (z x : Int) (V : List Value) (I : Nat → Int) (R : Nat → List Value) (w : World) (h0 : IsReqs w a0 n cap0 I R) (hV : IsRes V) :
    Calls Try.prog 5 #[.slice a0 n cap0, .int .i64 z, .int .u64 x, .agg V.toArray] w fun e w' => e = .returned (.bool true) ∧ Below w.heap.size w w' := by
  have hVl := hV.len
  have hnm : n ≤ maxLen := by
    rcases h0 with ⟨_, rfl, _⟩ | ⟨_, _, h1, h2, _⟩
    · exact Nat.zero_le _
    · omega
  obtain ⟨r0, r1, r2, r3, r4, r5, r6, r7, r8, r9, r10, r11, rfl⟩ := list12 hVl
  have hB1 : Below w.heap.size w (w.alloc (.cells #[r0, r1, r2, r3, r4, r5, r6, r7, r8, r9, r10, r11] 33)) := (Below.refl _ w).alloc (Nat.le_refl _) _
  have hsz : (w.alloc (.cells #[r0, r1, r2, r3, r4, r5, r6, r7, r8, r9, r10, r11] 33)).heap.size = w.heap.size + 1 := by simp
  have hbox := range_alloc_new w [r0, r1, r2, r3, r4, r5, r6, r7, r8, r9, r10, r11] 33
  have hZ := bytes14 a0 n cap0 z x [r0, r1, r2, r3, r4, r5, r6, r7, r8, r9, r10, r11] (w.alloc (.cells #[r0, r1, r2, r3, r4, r5, r6, r7, r8, r9, r10, r11] 33)) rfl hnm
  obtain ⟨w1, hw1⟩ : ∃ w1, w1 = w.alloc (.cells #[r0, r1, r2, r3, r4, r5, r6, r7, r8, r9, r10, r11] 33) := ⟨_, rfl⟩
  have HB1 : Hid (Below w.heap.size w w1) := by rw [hw1]; exact hB1
  have Hsz : Hid (w1.heap.size = w.heap.size + 1) := by rw [hw1]; exact hsz
  have Hbox : Hid (w1.rangeAt w.heap.size 0 [r0, r1, r2, r3, r4, r5, r6, r7, r8, r9, r10, r11]) := by rw [hw1]; exact hbox
  have HZ : Hid (Calls Try.prog 14 #[.slice a0 n cap0, .int .i64 z, .int .u64 x, .agg #[r0, r1, r2, r3, r4, r5, r6, r7, r8, r9, r10, r11]] (w.alloc (.cells #[r0, r1, r2, r3, r4, r5, r6, r7, r8, r9, r10, r11] 33)) fun e w' => B14 n w1 e w') := by rw [hw1]; exact hZ
  have H0 := hid h0
  have HV := hid hV
  unfold maxLen at hnm
  clear hZ hw1 hB1 hsz hbox h0 hV hVl
  go_enter Try.func5, Try.ntmps5
  go_wp2_with fail
  refine HZ.out.mono ?_
  rintro e w2 ⟨bz, rfl, hB2, hb4⟩
  clear HZ
  have HB2 : Hid (Below w.heap.size w w2) := HB1.out.trans (hB2.mono (by rw [Hsz.out]; omega))
  by_cases hn : n ≤ 4096
  · obtain rfl := hb4 hn
    clear hb4
    have t1 : decide ((4096 : Int) < (n : Int)) = false := by simp; omega
    have t1' : ¬ ((4096 : Int) < (n : Int)) := by omega
    by_cases hz : 0 ≤ z ∧ z ≤ n
    · obtain ⟨i, rfl⟩ : ∃ i : Nat, z = i := ⟨z.toNat, by omega⟩
      have hin : i ≤ n := by omega
      have t2 : ¬ ((i : Int) < 0) := by omega
      have t3 : ¬ ((n : Int) < (i : Int)) := by omega
      have t2' : decide ((i : Int) < 0) = false := by simp
      have t3' : decide ((n : Int) < (i : Int)) = false := by simp; omega
      have t6 : decide (n < i) = false := by simp; omega
      have Hbox2 : Hid (w2.rangeAt w.heap.size 0 [r0, r1, r2, r3, r4, r5, r6, r7, r8, r9, r10, r11]) := range_below Hbox.out hB2 (by rw [Hsz.out]; omega)
      have hwlt : Hid (w.heap.size < w2.heap.size) := Nat.lt_of_lt_of_le (by rw [Hsz.out]; omega) hB2.size
      have h02 : IsReqs w2 a0 n cap0 I R := by
        have hb := HB2.out
        rcases H0.out with ⟨h1, h2, h3⟩ | ⟨y, h1, h2, h3, h4, h5⟩
        · exact .inl ⟨h1, h2, h3⟩
        · refine .inr ⟨y, h1, h2, h3, h4, fun k hk t v hv => ?_⟩
          have hh := h5 k hk t v hv
          exact (hb.cell (World.block_lt_of_cell? w _ hh)).trans hh
      have hC := cloner_uni a0 n cap0 I R w2 h02 (by omega)
      clear h02 hz Hbox HB1 Hsz hB2 H0
      go_wp2_with fail
      refine hC.mono ?_
      rintro e w3 ⟨bo, b, rfl, hbo, hbr, hblt, hG, hB3⟩
      clear hC
      obtain ⟨x3, hmk3, th3, lt3, bl3⟩ := make_k w3 36 31 1 8 (.int .u64 0) Try.info31 Try.underlying36 n (by omega) (by omega)
      obtain ⟨x4, hmk4, th4, lt4, bl4⟩ := make_k x3 37 41 12 72 zres Try.info41 Try.underlying37 n (by omega) (by omega)
      have D0 : Hid (S2 w3 x4 w3.heap.size x3.heap.size n 0 I R) := ⟨fun j hj => by omega, fun j hj => by omega, by rw [Nat.mul_one] at th3; exact there_below th3 bl4 lt3, th4, Nat.lt_of_lt_of_le lt3 bl4.size, lt4, bl3.trans (bl4.mono (Nat.le_of_lt lt3)), Nat.le_refl _, Nat.le_of_lt lt3, by omega⟩
      have HB3 : Hid (Below w.heap.size w w3) := HB2.out.trans (hB3.mono HB2.out.size)
      have Hbox3 : Hid (w3.rangeAt w.heap.size 0 [r0, r1, r2, r3, r4, r5, r6, r7, r8, r9, r10, r11]) := range_below Hbox2.out hB3 hwlt.out
      have hwlt3 : Hid (w.heap.size < w3.heap.size) := Nat.lt_of_lt_of_le hwlt.out hB3.size
      have hne3 : w3.heap.size ≠ x3.heap.size := by omega
      obtain ⟨g1, hg1⟩ : ∃ g1, g1 = w3.heap.size := ⟨_, rfl⟩
      obtain ⟨g2, hg2⟩ : ∃ g2, g2 = x3.heap.size := ⟨_, rfl⟩
      rw [← hg1] at hmk3 D0 hne3
      rw [← hg2] at hmk4 D0 hne3
      have Hbo := hid hbo
      have Hbr := hid hbr
      have Hblt := hid hblt
      have HG := hid hG
      clear hbo hbr hblt hG th3 lt3 bl3 th4 lt4 bl4 hg1 hg2 hB3 Hbox2 HB2 hwlt t1 t1' t2 t2' t3 t3' hnm
      go_wp2_with fail
      go_loopw [12] (fun k x => ∃ j : Nat, j ≤ n ∧ k = .int .i64 j ∧ Hid (S2 w3 x g1 g2 n j I R)) (fun k _ => n - (intOf k).toNat)
      case atStart => exact ⟨0, Nat.zero_le _, rfl, D0⟩
      case round =>
        obtain ⟨k, hk, rfl, H⟩ := hrel
        clear D0 hmk3 hmk4
        by_cases hlt : k < n
        · have hxx := Hbo.out (by omega)
          subst hxx
          have hglt := Hblt.out (by omega)
          have e2 := range_below (Hbr.out k hlt) H.out.bel hglt
          have HN := H.out.step HG.out hlt
          obtain ⟨z0, z1, z5, z7, z8, z9, b2, b3, b4, b6, b10, b11, hRk⟩ := HG.out k hlt
          have hq : req I R k = [.int .u64 (I k), .int .i64 z0, .int .i64 z1, .bool b2, .bool b3, .bool b4, .int .i64 z5, .bool b6, .int .i64 z7, .int .i64 z8, .int .i64 z9, .bool b10, .bool b11] := by unfold req; rw [hRk]
          rw [hq] at e2
          rw [hRk] at HN
          simp only [World.setCells, Nat.add_assoc, Nat.reduceAdd] at HN
          obtain ⟨c, c0, c1, c2, c3, c4, c5, c6, c7, c8, c9, c10, c11⟩ := range13 e2
          obtain ⟨⟨⟨u0, d0⟩, ⟨u1, d1⟩, ⟨u2, d2⟩, ⟨u3, d3⟩, ⟨u4, d4⟩, ⟨u5, d5⟩, ⟨u6, d6⟩, ⟨u7, d7⟩, ⟨u8, d8⟩, ⟨u9, d9⟩, ⟨u10, d10⟩, ⟨u11, d11⟩⟩, f0, f1, f2, f3, f4, f5, f6, f7, f8, f9, f10, f11⟩ := there12 (o := k * 12) H.out.t2 (by omega)
          obtain ⟨u, hu⟩ := H.out.some1 hlt
          have hf := (H.out.t1 k hlt).2
          rw [Nat.zero_add] at hf
          have hne1 : b ≠ g1 := by have := H.out.s1; omega
          have hne2 : b ≠ g2 := by have := H.out.s2; omega
          have HN' := hid HN
          have b0 : (0 : Int) ≤ (k : Int) := by omega
          have b1 : (k : Int) < (n : Int) := by omega
          clear e2 HN hRk hq H
          go_wp2_with fail
          go_roundw
          case rel => exact ⟨k + 1, by omega, by go_num, HN'⟩
          case measure => simp [intOf]; omega
        · have hjl : k = n := by omega
          subst hjl
          clear hlt hk
          obtain ⟨d, m, hd, hm⟩ : ∃ d m, ((k + 1 ≤ 1000 ∧ d = 0) ∨ (1000 < k + 1 ∧ d = 1)) ∧ m + d = k + 1 := by
            by_cases h : k + 1 ≤ 1000
            · exact ⟨0, k + 1, .inl ⟨h, rfl⟩, rfl⟩
            · exact ⟨1, k, .inr ⟨by omega, rfl⟩, rfl⟩
          have hZ := zz_walk g1 g2 k i x I R [r0, r1, r2, r3, r4, r5, r6, r7, r8, r9, r10, r11] wr ⟨H.out.d1, H.out.l1⟩ ⟨H.out.d2, H.out.l2⟩ HG.out HV.out (by omega) hin d m hd hm
          have hbx := range_below Hbox3.out H.out.bel hwlt3.out
          obtain ⟨c0, c1, c2, c3, c4, c5, c6, c7, c8, c9, c10, c11⟩ := range12 hbx
          simp only [Nat.zero_add] at c0 c1 c2 c3 c4 c5 c6 c7 c8 c9 c10 c11
          have hwlt4 : Hid (w.heap.size < wr.heap.size) := Nat.lt_of_lt_of_le hwlt3.out H.out.bel.size
          have HB4 : Hid (Below w.heap.size w wr) := HB3.out.trans (H.out.bel.mono HB3.out.size)
          have Hbr4 : Hid (∀ t, t < k → wr.rangeAt b (t * 13) (req I R t)) := fun t ht => range_below (Hbr.out t ht) H.out.bel (Hblt.out (by omega))
          have Hblt4 : Hid (0 < k → b < wr.heap.size) := fun h => Nat.lt_of_lt_of_le (Hblt.out h) H.out.bel.size
          clear H Hblt Hbr HB3 hwlt3 Hbox3 hne3
          go_wp2_with fail
          refine hZ.mono ?_
          rintro e w5 ⟨q1, q2, rfl, hI5, hR5, hq1, hq2, hB5⟩
          clear hZ
          obtain ⟨vz0, vz1, vz5, vz7, vz8, vz9, vb2, vb3, vb4, vb6, vb10, vb11, hVe⟩ := HV.out
          simp only [List.cons.injEq, and_true] at hVe
          obtain ⟨rfl, rfl, rfl, rfl, rfl, rfl, rfl, rfl, rfl, rfl, rfl, rfl⟩ := hVe
          have Hbx5 : Hid (w5.rangeAt w.heap.size 0 [.int .i64 vz0, .int .i64 vz1, .bool vb2, .bool vb3, .bool vb4, .int .i64 vz5, .bool vb6, .int .i64 vz7, .int .i64 vz8, .int .i64 vz9, .bool vb10, .bool vb11]) := range_below hbx hB5 hwlt4.out
          have hw5 : w.heap.size < w5.heap.size := Nat.lt_of_lt_of_le hwlt4.out hB5.size
          have HB5 : Hid (Below w.heap.size w w5) := HB4.out.trans (hB5.mono HB4.out.size)
          have Hbr5 : Hid (∀ t, t < k → w5.rangeAt b (t * 13) (req I R t)) := fun t ht => range_below (Hbr4.out t ht) hB5 (Hblt4.out (by omega))
          have Hblt5 : Hid (0 < k → b < w5.heap.size) := fun h => Nat.lt_of_lt_of_le (Hblt4.out h) hB5.size
          have HI5 := hid hI5
          have HR5 := hid hR5
          have hq1 := hI5.lt
          have hq2 := hR5.lt
          clear hbx c0 c1 c2 c3 c4 c5 c6 c7 c8 c9 c10 c11 hwlt4 HB4 Hbr4 Hblt4 hB5 hI5 hR5 HV
          rcases hd with ⟨hd, rfl⟩ | ⟨hd, rfl⟩
          · obtain rfl : m = k + 1 := by omega
            have s1 : decide ((1000 : Int) < (k : Int) + 1) = false := by simp; omega
            have s1' : ¬ ((1000 : Int) < (k : Int) + 1) := by omega
            go_wp2_with fail
            go_loopw [17, 18, 19, 20] (fun k1 _ _ _ y => ∃ j : Nat, j ≤ (k + 1) ∧ k1 = .int .i64 j ∧ Hid (Below w5.heap.size w5 y)) (fun k1 _ _ _ _ => (k + 1) - (intOf k1).toNat)
            case atStart => exact ⟨0, Nat.zero_le _, rfl, Below.refl _ _⟩
            case round =>
              obtain ⟨t, ht, rfl, H⟩ := hrel
              by_cases hlt : t < (k + 1)
              · have e1 := (H.out.cell (p := ⟨q1, t, none⟩) hq1).trans (HI5.out.el t hlt)
                have e2 := range_below (HR5.out.el t hlt) H.out hq2
                have e3 := range_below Hbx5.out H.out hw5
                obtain ⟨c0, c1, c2, c3, c4, c5, c6, c7, c8, c9, c10, c11⟩ := range12 e3
                simp only [Nat.zero_add] at c0 c1 c2 c3 c4 c5 c6 c7 c8 c9 c10 c11
                simp only [Nat.add_zero] at e1 e2
                have hsz : w5.heap.size ≤ wr.heap.size := H.out.size
                have l1 : q1 < wr.heap.size := by omega
                have l2 : q2 < wr.heap.size := by omega
                have l3 : w.heap.size < wr.heap.size := by omega
                have b0 : (0 : Int) ≤ (t : Int) := by omega
                have b1 : (t : Int) < (k : Int) + 1 := by omega
                have FIN : Hid (∀ (o : Obj) (q : Nat), Below w5.heap.size w5 ((wr.alloc o).drewN q)) := fun o q => below_drewN (H.out.alloc hsz o) q
                clear e3
                rcases Nat.lt_trichotomy t i with hc | hc | hc
                · skip
                  have hJn : t < k := by omega
                  have hxx := Hbo.out (by omega)
                  subst hxx
                  have hb5 := Hblt5.out (by omega)
                  have l4 : b < wr.heap.size := by omega
                  have e4 := range_below (Hbr5.out t hJn) H.out hb5
                  obtain ⟨az0, az1, az5, az7, az8, az9, ab2, ab3, ab4, ab6, ab10, ab11, hRJ⟩ := HG.out t hJn
                  rw [show req I R t = [.int .u64 (I t), .int .i64 az0, .int .i64 az1, .bool ab2, .bool ab3, .bool ab4, .int .i64 az5, .bool ab6, .int .i64 az7, .int .i64 az8, .int .i64 az9, .bool ab10, .bool ab11] from by unfold req; rw [hRJ]] at e4
                  have hi1 : insF I i x t = I t := by rw [insF, if_pos hc]
                  have hi2 : insF R i [.int .i64 vz0, .int .i64 vz1, .bool vb2, .bool vb3, .bool vb4, .int .i64 vz5, .bool vb6, .int .i64 vz7, .int .i64 vz8, .int .i64 vz9, .bool vb10, .bool vb11] t = [.int .i64 az0, .int .i64 az1, .bool ab2, .bool ab3, .bool ab4, .int .i64 az5, .bool ab6, .int .i64 az7, .int .i64 az8, .int .i64 az9, .bool ab10, .bool ab11] := by rw [insF, if_pos hc]; exact hRJ
                  have q1t : decide ((t : Int) < (i : Int)) = true := by simp; omega
                  have q1p : (t : Int) < (i : Int) := by omega
                  have q3p : (0 : Int) ≤ (t : Int) := by omega
                  have q4p : (t : Int) < (k : Int) := by omega
                  rw [hi1] at e1
                  rw [hi2] at e2
                  obtain ⟨k0, k1, k2, k3, k4, k5, k6, k7, k8, k9, k10, k11⟩ := range12 e2
                  obtain ⟨mm, m0, m1, m2, m3, m4, m5, m6, m7, m8, m9, m10, m11⟩ := range13 e4
                  clear e2 e4 hi1 hi2 hRJ H
                  go_wp2_with fail
                  go_quiet (fail)
                  go_wp2_with fail
                  go_roundw
                  case rel => exact ⟨t + 1, by omega, by go_num, hid (FIN.out _ _)⟩
                  case measure => simp [intOf]; omega
                · skip
                  have hi1 : insF I i x t = x := by rw [insF, if_neg (by omega), if_pos hc]
                  have hi2 : insF R i [.int .i64 vz0, .int .i64 vz1, .bool vb2, .bool vb3, .bool vb4, .int .i64 vz5, .bool vb6, .int .i64 vz7, .int .i64 vz8, .int .i64 vz9, .bool vb10, .bool vb11] t = [.int .i64 vz0, .int .i64 vz1, .bool vb2, .bool vb3, .bool vb4, .int .i64 vz5, .bool vb6, .int .i64 vz7, .int .i64 vz8, .int .i64 vz9, .bool vb10, .bool vb11] := by rw [insF, if_neg (by omega), if_pos hc]
                  rw [hi1] at e1
                  rw [hi2] at e2
                  have q1t : decide ((t : Int) < (i : Int)) = false := by simp; omega
                  have q1p : ¬ ((t : Int) < (i : Int)) := by omega
                  have q2t : decide ((i : Int) < (t : Int)) = false := by simp; omega
                  have q2p : ¬ ((i : Int) < (t : Int)) := by omega
                  obtain ⟨k0, k1, k2, k3, k4, k5, k6, k7, k8, k9, k10, k11⟩ := range12 e2
                  clear e2 hi1 hi2 H hc
                  go_wp2_with fail
                  go_quiet (fail)
                  go_wp2_with fail
                  go_roundw
                  case rel => exact ⟨t + 1, by omega, by go_num, hid (FIN.out _ _)⟩
                  case measure => simp [intOf]; omega
                · skip
                  obtain ⟨s, rfl⟩ : ∃ s, t = s + 1 := ⟨t - 1, by omega⟩
                  have hJn : s < k := by omega
                  have hxx := Hbo.out (by omega)
                  subst hxx
                  have hb5 := Hblt5.out (by omega)
                  have l4 : b < wr.heap.size := by omega
                  have e4 := range_below (Hbr5.out s hJn) H.out hb5
                  obtain ⟨az0, az1, az5, az7, az8, az9, ab2, ab3, ab4, ab6, ab10, ab11, hRJ⟩ := HG.out s hJn
                  rw [show req I R s = [.int .u64 (I s), .int .i64 az0, .int .i64 az1, .bool ab2, .bool ab3, .bool ab4, .int .i64 az5, .bool ab6, .int .i64 az7, .int .i64 az8, .int .i64 az9, .bool ab10, .bool ab11] from by unfold req; rw [hRJ]] at e4
                  have nl : ¬ ((s + 1) < i) := by omega
                  have ne : ¬ ((s + 1) = i) := by omega
                  have hi1 : insF I i x (s + 1) = I s := by rw [insF, if_neg nl, if_neg ne]; rfl
                  have hi2 : insF R i [.int .i64 vz0, .int .i64 vz1, .bool vb2, .bool vb3, .bool vb4, .int .i64 vz5, .bool vb6, .int .i64 vz7, .int .i64 vz8, .int .i64 vz9, .bool vb10, .bool vb11] (s + 1) = [.int .i64 az0, .int .i64 az1, .bool ab2, .bool ab3, .bool ab4, .int .i64 az5, .bool ab6, .int .i64 az7, .int .i64 az8, .int .i64 az9, .bool ab10, .bool ab11] := by rw [insF, if_neg nl, if_neg ne]; exact hRJ
                  have q1t : decide (((s : Int) + 1) < (i : Int)) = false := by simp; omega
                  have q1p : ¬ (((s : Int) + 1) < (i : Int)) := by omega
                  have q2t : decide ((i : Int) < ((s : Int) + 1)) = true := by simp; omega
                  have q2p : (i : Int) < ((s : Int) + 1) := by omega
                  have q3p : (0 : Int) ≤ (s : Int) := by omega
                  have q4p : (s : Int) < (k : Int) := by omega
                  have q5p : IntKind.i64.wrap (((s : Int) + 1) - 1) = (s : Int) := by rw [IntKind.wrap_i64]; omega
                  have q6p : IntKind.i64.wrap ((s : Int) + 1) = ((s : Int) + 1) := by rw [IntKind.wrap_i64]; omega
                  rw [hi1] at e1
                  rw [hi2] at e2
                  obtain ⟨k0, k1, k2, k3, k4, k5, k6, k7, k8, k9, k10, k11⟩ := range12 e2
                  obtain ⟨mm, m0, m1, m2, m3, m4, m5, m6, m7, m8, m9, m10, m11⟩ := range13 e4
                  clear e2 e4 hi1 hi2 hRJ H
                  go_wp2_with fail
                  go_quiet (fail)
                  go_wp2_with fail
                  go_roundw
                  case rel => exact ⟨(s + 1) + 1, by omega, by go_num, hid (FIN.out _ _)⟩
                  case measure => simp [intOf]; omega
              · obtain rfl : t = (k + 1) := by omega
                clear hlt ht
                go_wp2_with fail
                go_ret
                exact ⟨rfl, HB5.out.trans (H.out.mono HB5.out.size)⟩
          · obtain rfl : k = m := by omega
            have s1 : decide ((1000 : Int) < (k : Int) + 1) = true := by simp; omega
            have s1' : ((1000 : Int) < (k : Int) + 1) := by omega
            go_wp2_with fail
            go_loopw [17, 18, 19, 20] (fun k1 _ _ _ y => ∃ j : Nat, j ≤ k ∧ k1 = .int .i64 j ∧ Hid (Below w5.heap.size w5 y)) (fun k1 _ _ _ _ => k - (intOf k1).toNat)
            case atStart => exact ⟨0, Nat.zero_le _, rfl, Below.refl _ _⟩
            case round =>
              obtain ⟨t, ht, rfl, H⟩ := hrel
              by_cases hlt : t < k
              · have e1 := (H.out.cell (p := ⟨q1, t, none⟩) hq1).trans (HI5.out.el t hlt)
                have e2 := range_below (HR5.out.el t hlt) H.out hq2
                have e3 := range_below Hbx5.out H.out hw5
                obtain ⟨c0, c1, c2, c3, c4, c5, c6, c7, c8, c9, c10, c11⟩ := range12 e3
                simp only [Nat.zero_add] at c0 c1 c2 c3 c4 c5 c6 c7 c8 c9 c10 c11
                have hsz : w5.heap.size ≤ wr.heap.size := H.out.size
                have l1 : q1 < wr.heap.size := by omega
                have l2 : q2 < wr.heap.size := by omega
                have l3 : w.heap.size < wr.heap.size := by omega
                have b0 : (0 : Int) ≤ (t : Int) := by omega
                have b1 : (t : Int) < (k : Int) := by omega
                have FIN : Hid (∀ (o : Obj) (q : Nat), Below w5.heap.size w5 ((wr.alloc o).drewN q)) := fun o q => below_drewN (H.out.alloc hsz o) q
                clear e3
                rcases Nat.lt_trichotomy (t + 1) i with hc | hc | hc
                · skip
                  have hJn : (t + 1) < k := by omega
                  have hxx := Hbo.out (by omega)
                  subst hxx
                  have hb5 := Hblt5.out (by omega)
                  have l4 : b < wr.heap.size := by omega
                  have e4 := range_below (Hbr5.out (t + 1) hJn) H.out hb5
                  obtain ⟨az0, az1, az5, az7, az8, az9, ab2, ab3, ab4, ab6, ab10, ab11, hRJ⟩ := HG.out (t + 1) hJn
                  rw [show req I R (t + 1) = [.int .u64 (I (t + 1)), .int .i64 az0, .int .i64 az1, .bool ab2, .bool ab3, .bool ab4, .int .i64 az5, .bool ab6, .int .i64 az7, .int .i64 az8, .int .i64 az9, .bool ab10, .bool ab11] from by unfold req; rw [hRJ]] at e4
                  have hi1 : insF I i x (t + 1) = I (t + 1) := by rw [insF, if_pos hc]
                  have hi2 : insF R i [.int .i64 vz0, .int .i64 vz1, .bool vb2, .bool vb3, .bool vb4, .int .i64 vz5, .bool vb6, .int .i64 vz7, .int .i64 vz8, .int .i64 vz9, .bool vb10, .bool vb11] (t + 1) = [.int .i64 az0, .int .i64 az1, .bool ab2, .bool ab3, .bool ab4, .int .i64 az5, .bool ab6, .int .i64 az7, .int .i64 az8, .int .i64 az9, .bool ab10, .bool ab11] := by rw [insF, if_pos hc]; exact hRJ
                  have q1t : decide (((t : Int) + 1) < (i : Int)) = true := by simp; omega
                  have q1p : ((t : Int) + 1) < (i : Int) := by omega
                  have q3p : (0 : Int) ≤ ((t : Int) + 1) := by omega
                  have q4p : ((t : Int) + 1) < (k : Int) := by omega
                  rw [hi1] at e1
                  rw [hi2] at e2
                  obtain ⟨k0, k1, k2, k3, k4, k5, k6, k7, k8, k9, k10, k11⟩ := range12 e2
                  obtain ⟨mm, m0, m1, m2, m3, m4, m5, m6, m7, m8, m9, m10, m11⟩ := range13 e4
                  clear e2 e4 hi1 hi2 hRJ H
                  go_wp2_with fail
                  go_quiet (fail)
                  go_wp2_with fail
                  go_roundw
                  case rel => exact ⟨t + 1, by omega, by go_num, hid (FIN.out _ _)⟩
                  case measure => simp [intOf]; omega
                · skip
                  have hi1 : insF I i x (t + 1) = x := by rw [insF, if_neg (by omega), if_pos hc]
                  have hi2 : insF R i [.int .i64 vz0, .int .i64 vz1, .bool vb2, .bool vb3, .bool vb4, .int .i64 vz5, .bool vb6, .int .i64 vz7, .int .i64 vz8, .int .i64 vz9, .bool vb10, .bool vb11] (t + 1) = [.int .i64 vz0, .int .i64 vz1, .bool vb2, .bool vb3, .bool vb4, .int .i64 vz5, .bool vb6, .int .i64 vz7, .int .i64 vz8, .int .i64 vz9, .bool vb10, .bool vb11] := by rw [insF, if_neg (by omega), if_pos hc]
                  rw [hi1] at e1
                  rw [hi2] at e2
                  have q1t : decide (((t : Int) + 1) < (i : Int)) = false := by simp; omega
                  have q1p : ¬ (((t : Int) + 1) < (i : Int)) := by omega
                  have q2t : decide ((i : Int) < ((t : Int) + 1)) = false := by simp; omega
                  have q2p : ¬ ((i : Int) < ((t : Int) + 1)) := by omega
                  obtain ⟨k0, k1, k2, k3, k4, k5, k6, k7, k8, k9, k10, k11⟩ := range12 e2
                  clear e2 hi1 hi2 H hc
                  go_wp2_with fail
                  go_quiet (fail)
                  go_wp2_with fail
                  go_roundw
                  case rel => exact ⟨t + 1, by omega, by go_num, hid (FIN.out _ _)⟩
                  case measure => simp [intOf]; omega
                · skip
                  have hJn : t < k := by omega
                  have hxx := Hbo.out (by omega)
                  subst hxx
                  have hb5 := Hblt5.out (by omega)
                  have l4 : b < wr.heap.size := by omega
                  have e4 := range_below (Hbr5.out t hJn) H.out hb5
                  obtain ⟨az0, az1, az5, az7, az8, az9, ab2, ab3, ab4, ab6, ab10, ab11, hRJ⟩ := HG.out t hJn
                  rw [show req I R t = [.int .u64 (I t), .int .i64 az0, .int .i64 az1, .bool ab2, .bool ab3, .bool ab4, .int .i64 az5, .bool ab6, .int .i64 az7, .int .i64 az8, .int .i64 az9, .bool ab10, .bool ab11] from by unfold req; rw [hRJ]] at e4
                  have nl : ¬ ((t + 1) < i) := by omega
                  have ne : ¬ ((t + 1) = i) := by omega
                  have hi1 : insF I i x (t + 1) = I t := by rw [insF, if_neg nl, if_neg ne]; rfl
                  have hi2 : insF R i [.int .i64 vz0, .int .i64 vz1, .bool vb2, .bool vb3, .bool vb4, .int .i64 vz5, .bool vb6, .int .i64 vz7, .int .i64 vz8, .int .i64 vz9, .bool vb10, .bool vb11] (t + 1) = [.int .i64 az0, .int .i64 az1, .bool ab2, .bool ab3, .bool ab4, .int .i64 az5, .bool ab6, .int .i64 az7, .int .i64 az8, .int .i64 az9, .bool ab10, .bool ab11] := by rw [insF, if_neg nl, if_neg ne]; exact hRJ
                  have q1t : decide (((t : Int) + 1) < (i : Int)) = false := by simp; omega
                  have q1p : ¬ (((t : Int) + 1) < (i : Int)) := by omega
                  have q2t : decide ((i : Int) < ((t : Int) + 1)) = true := by simp; omega
                  have q2p : (i : Int) < ((t : Int) + 1) := by omega
                  have q3p : (0 : Int) ≤ (t : Int) := by omega
                  have q4p : (t : Int) < (k : Int) := by omega
                  have q5p : IntKind.i64.wrap (((t : Int) + 1) - 1) = (t : Int) := by rw [IntKind.wrap_i64]; omega
                  have q6p : IntKind.i64.wrap ((t : Int) + 1) = ((t : Int) + 1) := by rw [IntKind.wrap_i64]; omega
                  rw [hi1] at e1
                  rw [hi2] at e2
                  obtain ⟨k0, k1, k2, k3, k4, k5, k6, k7, k8, k9, k10, k11⟩ := range12 e2
                  obtain ⟨mm, m0, m1, m2, m3, m4, m5, m6, m7, m8, m9, m10, m11⟩ := range13 e4
                  clear e2 e4 hi1 hi2 hRJ H
                  go_wp2_with fail
                  go_quiet (fail)
                  go_wp2_with fail
                  go_roundw
                  case rel => exact ⟨t + 1, by omega, by go_num, hid (FIN.out _ _)⟩
                  case measure => simp [intOf]; omega
              · obtain rfl : t = k := by omega
                clear hlt ht
                go_wp2_with fail
                go_ret
                exact ⟨rfl, HB5.out.trans (H.out.mono HB5.out.size)⟩
    · have t4 : (z < 0) ∨ ((n : Int) < z) := by omega
      rcases t4 with t4 | t4
      · have t4' : decide (z < 0) = true := by simp; omega
        go_wp2_with fail
        go_ret
        exact ⟨rfl, HB2.out⟩
      · have t5 : ¬ (z < 0) := by omega
        have t5' : decide (z < 0) = false := by simp; omega
        have t4' : decide ((n : Int) < z) = true := by simp; omega
        go_wp2_with fail
        go_ret
        exact ⟨rfl, HB2.out⟩
  · have t1 : decide ((4096 : Int) < (n : Int)) = true := by simp; omega
    have t1' : ((4096 : Int) < (n : Int)) := by omega
    cases bz with
    | true =>
      go_wp2_with fail
      go_ret
      exact ⟨rfl, HB2.out⟩
    | false =>
      go_wp2_with fail
      go_ret
      exact ⟨rfl, HB2.out⟩
end Go.Proofs.Qxb6604127a
