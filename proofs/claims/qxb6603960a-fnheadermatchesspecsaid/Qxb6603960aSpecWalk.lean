/-
  THE WALK OF FnHeaderMatchesSpec.
-/
import Derived.Test.Qxb6603960aHeaderFacts
namespace Go.Proofs.Qxb6603960a
open Go.RowKit

set_option maxHeartbeats 2000000 in
set_option maxRecDepth 100000 in
theorem spec_long (a0 a1 a2 a3 a4 a5 a6 a7 a8 : ByteArray) (w0 : a0.size ≤ maxLen) (w1 : a1.size ≤ maxLen) (w2 : a2.size ≤ maxLen) (w3 : a3.size ≤ maxLen) (w4 : a4.size ≤ maxLen) (w5 : a5.size ≤ maxLen) (w6 : a6.size ≤ maxLen) (w7 : a7.size ≤ maxLen) (w8 : a8.size ≤ maxLen) (w : World)
    (hs : ¬ (a0.size ≤ 65536 ∧ a1.size ≤ 65536 ∧ a2.size ≤ 65536 ∧ a3.size ≤ 65536 ∧ a4.size ≤ 65536 ∧ a5.size ≤ 65536 ∧ a6.size ≤ 65536 ∧ a7.size ≤ 65536 ∧ a8.size ≤ 65536)) :
    Calls Try.prog 5 #[.string a0, .string a1, .string a2, .string a3, .string a4, .string a5, .string a6, .string a7, .string a8] w fun e w' => e = .returned (.bool true) ∧ Below w.heap.size w w' := by
  have HB := bytes14 a0 a1 a2 a3 a4 a5 a6 a7 a8 w w0 w1 w2 w3 w4 w5 w6 w7 w8
  have HB := hid HB
  have HS := hid hs
  clear hs
  unfold maxLen at w0 w1 w2 w3 w4 w5 w6 w7 w8
  go_enter Try.func5, Try.ntmps5
  go_wp2_with (go_at_call 14; refine HB.out.mono ?_)
  rintro e w' ⟨rfl | rfl, rfl⟩
  · go_wp2_with fail
    rotate_left 9
    · exact absurd (by refine ⟨?_, ?_, ?_, ?_, ?_, ?_, ?_, ?_, ?_⟩ <;> omega) HS.out
    all_goals
      go_ret
      exact ⟨rfl, Below.refl _ _⟩
  · go_wp2
    go_ret
    exact ⟨rfl, Below.refl _ _⟩

set_option maxHeartbeats 8000000 in
set_option maxRecDepth 100000 in
theorem spec_walk (a0 a1 a2 a3 a4 a5 a6 a7 a8 : ByteArray) (w0 : a0.size ≤ maxLen) (w1 : a1.size ≤ maxLen) (w2 : a2.size ≤ maxLen) (w3 : a3.size ≤ maxLen) (w4 : a4.size ≤ maxLen) (w5 : a5.size ≤ maxLen) (w6 : a6.size ≤ maxLen) (w7 : a7.size ≤ maxLen) (w8 : a8.size ≤ maxLen) (w : World) :
    Calls Try.prog 5 #[.string a0, .string a1, .string a2, .string a3, .string a4, .string a5, .string a6, .string a7, .string a8] w fun e w' => e = .returned (.bool true) ∧ Below w.heap.size w w' := by
  have HB := hid (bytes14 a0 a1 a2 a3 a4 a5 a6 a7 a8 w w0 w1 w2 w3 w4 w5 w6 w7 w8)
  by_cases hs : a0.size ≤ 65536 ∧ a1.size ≤ 65536 ∧ a2.size ≤ 65536 ∧ a3.size ≤ 65536 ∧ a4.size ≤ 65536 ∧ a5.size ≤ 65536 ∧ a6.size ≤ 65536 ∧ a7.size ≤ 65536 ∧ a8.size ≤ 65536
  · obtain ⟨s0, s1, s2, s3, s4, s5, s6, s7, s8⟩ := hs
    clear w0 w1 w2 w3 w4 w5 w6 w7 w8
    go_enter Try.func5, Try.ntmps5
    go_wp2_with (go_at_call 14; refine HB.out.mono ?_)
    rintro e w' ⟨rfl | rfl, rfl⟩
    · obtain ⟨V, hV⟩ : ∃ V, V = VV a0 a1 a2 a3 a4 a5 a6 a7 a8 := ⟨_, rfl⟩
      have HV := hid hV
      obtain ⟨O, hO⟩ : ∃ O : ByteArray, O.data.toList = Pl.header (bytesOf V) := ⟨⟨(Pl.header (bytesOf V)).toArray⟩, rfl⟩
      have HO := hid hO
      have hVs : ∀ k, (V k).size ≤ 65536 := by
        intro k
        rw [hV]
        by_cases hk : k < 9
        · exact nine (p := fun k => (VV a0 a1 a2 a3 a4 a5 a6 a7 a8 k).size ≤ 65536) s0 s1 s2 s3 s4 s8 s5 s6 s7 k hk
        · obtain ⟨j, rfl⟩ : ∃ j, k = j + 9 := ⟨k - 9, by omega⟩
          show (⟨#[]⟩ : ByteArray).size ≤ 65536
          decide
      have hOs : O.size ≤ 1179800 := by
        rw [Lib.size_eq, hO]
        have := Pl.body_len (bytesOf V) 65536 (fun j => by have := hVs j; rw [Lib.size_eq] at this; exact this) 9
        simp only [Pl.header, Pl.digest, List.length_append, List.length_cons, List.length_nil]; omega
      have HVs := hid hVs
      have HC := hid (creds_new w' a0 a1 a2 a3 a4 a5 a6 a7 a8 38)
      clear hV hO hVs
      go_wp2_with (go_at_call 15; refine (header_any w'.heap.size V O _ (by simp) (by rw [HV.out]; exact HC.out) HVs.out HO.out).mono ?_)
      rintro e x1 ⟨rfl, b1⟩
      have HL := hid (vals_new x1 a0 a1 a2 a3 a4 a5 a6 a7 a8 39)
      have hO64 : O.size ≤ 35184372088832 := by omega
      go_wp2_with (go_at_call 16; refine (lit_zero O ⟨#[68, 105, 103, 101, 115, 116, 32]⟩ 7 (Pl.body (bytesOf V) 9) _ (by rw [HO.out]; rfl) hO64 rfl).mono ?_)
      rintro e x2 ⟨rfl, b2⟩
      obtain ⟨U, hU⟩ : ∃ U, U = x1.alloc (.cells #[.string a0, .string a1, .string a2, .string a3, .string a4, .string a8, .string a5, .string a6, .string a7] 39) := ⟨_, rfl⟩
      have hUs : U.heap.size = x1.heap.size + 1 := by rw [hU]; simp
      have hbw : Below w'.heap.size w' U := by
        rw [hU]
        have z := b1.size
        simp at z
        exact (((Below.refl _ w').alloc (Nat.le_refl _) _).trans (b1.mono (by simp))).alloc (by omega) _
      rw [← hU] at HL b2
      rw [← HV.out] at HL
      have HUs := hid hUs
      have hcx : x1.heap.size < U.heap.size := by omega
      clear hU hUs
      go_wp2
      go_loopw [22, 24, 25] (fun i first k wr => ∃ kn : Nat, kn ≤ 9 ∧ k = .int .i64 kn ∧ i = .int .i64 (pos V kn) ∧ first = .bool (decide (kn = 0)) ∧ Below U.heap.size U wr) (fun _ _ k _ => 9 - (intOf k).toNat)
      case atStart => exact ⟨0, by omega, rfl, rfl, rfl, b2⟩
      case round =>
        obtain ⟨k, hk, rfl, rfl, rfl, hb⟩ := hrel
        by_cases hlt : k < 9
        · have cv := (hb.cell (p := ⟨x1.heap.size, k, none⟩) hcx).trans (HL.out k hlt)
          have hlt' : (k : Int) < 9 := by omega
          by_cases hv : (V k).data.toList = [] ∧ 5 ≤ k
          · have hps := hid (pos_skip V k hv)
            obtain ⟨hv1, hv5⟩ := hv
            have hv5' : (5 : Int) ≤ (k : Int) := by omega
            have hfk : decide (k = 0) = false := by simp; omega
            rw [← Lib.toList_data] at hv1
            generalize V k = v at cv hv1
            go_wp2
            go_roundw
            case rel => exact ⟨k + 1, by omega, by go_num, by rw [hps.out], by simp; omega, hb⟩
            case measure => simp [intOf]; omega
          · obtain ⟨p1, p2, post1, post2, post3, P0, Q0, l0, P1, Q1, l1, P2, Q2, l2⟩ := pos_steps HO.out k hlt hv
            have P0 := hid P0
            have Q0 := hid Q0
            have P1 := hid P1
            have Q1 := hid Q1
            have P2 := hid P2
            have Q2 := hid Q2
            obtain ⟨p3, hp3⟩ : ∃ p3, p3 = pos V (k + 1) := ⟨_, rfl⟩
            rw [← hp3] at Q2
            have P3 := hid hp3.symm
            clear hp3
            have hnl : (nameB k).size ≤ 9 := by rw [Lib.size_eq]; exact Pl.name_len k
            have hvs := HVs.out k
            by_cases hk6 : k < 6
            · have hk6' : (k : Int) < 6 := by omega
              have hval : Hid (Pl.val k (V k).data.toList = Pl.quote (V k).data.toList) := hid (by simp only [Pl.val]; rw [if_pos hk6])
              by_cases hk0 : k = 0
              · have hfk : decide (k = 0) = true := decide_eq_true hk0
                have hpe : pos V k = p1 := by
                  have e : Pl.pre k = [] := by rw [hk0]; rfl
                  have := Q0.out
                  rw [e] at this
                  simpa using this
                rw [hpe]
                have hk5 : ¬ (5 : Int) ≤ (k : Int) := by omega
                have HK0 := hid hk0
                clear hk0 hpe P0 Q0 l0 hv hk6
                generalize V k = v at cv hval hvs P2 Q2
                by_cases hve : v.toList = []
                all_goals
                  go_wp2_with fail
                  refine (name_any k _ hlt).mono ?_
                  rintro e y2 ⟨rfl, rfl⟩
                  go_wp2_with fail
                  have H1 := lit_at O (nameB k ++ ⟨#[61]⟩) p1 p2 post2 y2 P1.out l1 hO64 Q1.out
                  refine H1.mono ?_
                  rintro e y3 ⟨rfl, c3⟩
                  clear H1
                  go_wp2_with fail
                  have H2 := dec_at O v p2 p3 post3 y3 (by rw [P2.out, hval.out]) hO64 (by rw [← Q2.out, hval.out])
                  refine H2.mono ?_
                  rintro e y4 ⟨rfl, c4⟩
                  clear H2
                  go_wp2
                  go_roundw
                  case rel => exact ⟨k + 1, by omega, by go_num, by rw [P3.out], by simp, (hb.trans (c3.mono hb.size)).trans (c4.mono (Nat.le_trans hb.size c3.size))⟩
                  case measure => simp [intOf]; omega
              · have hfk : decide (k = 0) = false := decide_eq_false hk0
                have hpre : Hid (Pl.pre k = [44, 32]) := hid (by simp [Pl.pre, hk0])
                generalize hvk : V k = v at cv hval hvs P2 Q2 hv
                clear hvk
                by_cases hve : v.toList = []
                · have hk5 : ¬ (5 : Int) ≤ (k : Int) := by
                    intro h
                    rw [Lib.toList_data] at hve
                    exact hv ⟨hve, by omega⟩
                  clear hv
                  go_wp2_with fail
                  have H0 := lit_at O ⟨#[44, 32]⟩ (pos V k) p1 post1 wr (by rw [P0.out, hpre.out]) l0 hO64 (by rw [← Q0.out, hpre.out]; rfl)
                  refine H0.mono ?_
                  rintro e y1 ⟨rfl, c1⟩
                  clear H0
                  go_wp2_with fail
                  refine (name_any k _ hlt).mono ?_
                  rintro e y2 ⟨rfl, rfl⟩
                  go_wp2_with fail
                  have H1 := lit_at O (nameB k ++ ⟨#[61]⟩) p1 p2 post2 y2 P1.out l1 hO64 Q1.out
                  refine H1.mono ?_
                  rintro e y3 ⟨rfl, c3⟩
                  clear H1
                  go_wp2_with fail
                  have H2 := dec_at O v p2 p3 post3 y3 (by rw [P2.out, hval.out]) hO64 (by rw [← Q2.out, hval.out])
                  refine H2.mono ?_
                  rintro e y4 ⟨rfl, c4⟩
                  clear H2
                  go_wp2
                  go_roundw
                  case rel => exact ⟨k + 1, by omega, by go_num, by rw [P3.out], by simp, ((hb.trans (c1.mono hb.size)).trans (c3.mono (Nat.le_trans hb.size c1.size))).trans (c4.mono (Nat.le_trans hb.size (Nat.le_trans c1.size c3.size)))⟩
                  case measure => simp [intOf]; omega
                · clear hv
                  go_wp2_with fail
                  have H0 := lit_at O ⟨#[44, 32]⟩ (pos V k) p1 post1 wr (by rw [P0.out, hpre.out]) l0 hO64 (by rw [← Q0.out, hpre.out]; rfl)
                  refine H0.mono ?_
                  rintro e y1 ⟨rfl, c1⟩
                  clear H0
                  go_wp2_with fail
                  refine (name_any k _ hlt).mono ?_
                  rintro e y2 ⟨rfl, rfl⟩
                  go_wp2_with fail
                  have H1 := lit_at O (nameB k ++ ⟨#[61]⟩) p1 p2 post2 y2 P1.out l1 hO64 Q1.out
                  refine H1.mono ?_
                  rintro e y3 ⟨rfl, c3⟩
                  clear H1
                  go_wp2_with fail
                  have H2 := dec_at O v p2 p3 post3 y3 (by rw [P2.out, hval.out]) hO64 (by rw [← Q2.out, hval.out])
                  refine H2.mono ?_
                  rintro e y4 ⟨rfl, c4⟩
                  clear H2
                  go_wp2
                  go_roundw
                  case rel => exact ⟨k + 1, by omega, by go_num, by rw [P3.out], by simp, ((hb.trans (c1.mono hb.size)).trans (c3.mono (Nat.le_trans hb.size c1.size))).trans (c4.mono (Nat.le_trans hb.size (Nat.le_trans c1.size c3.size)))⟩
                  case measure => simp [intOf]; omega
            · have hk6' : ¬ (k : Int) < 6 := by omega
              have hval : Hid (Pl.val k (V k).data.toList = (V k).data.toList) := hid (by simp only [Pl.val]; rw [if_neg hk6])
              have hfk : decide (k = 0) = false := decide_eq_false (by omega)
              have hpre : Hid (Pl.pre k = [44, 32]) := hid (by simp [Pl.pre]; omega)
              have hve : ¬ (V k).toList = [] := by
                rw [Lib.toList_data]
                intro h
                exact hv ⟨h, by omega⟩
              generalize V k = v at cv hval hvs P2 Q2 hve
              clear hv
              go_wp2_with fail
              have H0 := lit_at O ⟨#[44, 32]⟩ (pos V k) p1 post1 wr (by rw [P0.out, hpre.out]) l0 hO64 (by rw [← Q0.out, hpre.out]; rfl)
              refine H0.mono ?_
              rintro e y1 ⟨rfl, c1⟩
              clear H0
              go_wp2_with fail
              refine (name_any k _ hlt).mono ?_
              rintro e y2 ⟨rfl, rfl⟩
              go_wp2_with fail
              have H1 := lit_at O (nameB k ++ ⟨#[61]⟩) p1 p2 post2 y2 P1.out l1 hO64 Q1.out
              refine H1.mono ?_
              rintro e y3 ⟨rfl, c3⟩
              clear H1
              go_wp2_with fail
              have H2 := lit_at O v p2 p3 post3 y3 (by rw [P2.out, hval.out]) l2 hO64 (by rw [← Q2.out, hval.out, Lib.size_eq])
              refine H2.mono ?_
              rintro e y4 ⟨rfl, c4⟩
              clear H2
              go_wp2
              go_roundw
              case rel => exact ⟨k + 1, by omega, by go_num, by rw [P3.out], by simp, ((hb.trans (c1.mono hb.size)).trans (c3.mono (Nat.le_trans hb.size c1.size))).trans (c4.mono (Nat.le_trans hb.size (Nat.le_trans c1.size c3.size)))⟩
              case measure => simp [intOf]; omega
        · have hk9 : k = 9 := by omega
          subst hk9
          have hfin : ((pos V 9 : Int) == (O.size : Int)) = true := by rw [pos_end HO.out]; simp
          clear hk hlt
          go_wp2
          go_ret
          exact ⟨rfl, hbw.trans (hb.mono hbw.size)⟩
    · go_wp2
      go_ret
      exact ⟨rfl, Below.refl _ _⟩
  · exact spec_long a0 a1 a2 a3 a4 a5 a6 a7 a8 w0 w1 w2 w3 w4 w5 w6 w7 w8 w hs
end Go.Proofs.Qxb6603960a
