/-
  THE WALK OF FnSessionWithKeepsHighest.
-/
import Derived.Test.Qxb6604127aKeepFacts
import Derived.Deep.QuietTactic
namespace Go.Proofs.Qxb6604127a
open Go.RowKit

/-- What the walk is told of a slice of integers that came in. -/
def IsRow (k : IntKind) (w : World) (a : Option Addr) (len cap : Nat) (zs : List Int) : Prop :=
  (a = none ∧ len = 0 ∧ cap = 0 ∧ zs = []) ∨
  ∃ x, a = some x ∧ len ≤ cap ∧ cap ≤ maxLen ∧ zs.length = cap ∧ (∀ i, i < zs.length → w.cell? (x.add i) = some (.int k (zs.getD i 0))) ∧ ∀ n ∈ zs, (Lit.int k n).wf = true

theorem addr_form2 {w : World} {x : Addr} {u : Value} (h : w.cell? (x.add 0) = some u) : ∃ b o, x = ⟨b, o, none⟩ ∧ b < w.heap.size := by
  obtain ⟨b, o, sp⟩ := x
  cases sp with
  | none =>
    refine ⟨b, o, rfl, ?_⟩
    have := World.block_lt_of_cell? w _ h
    have e : ((⟨b, o, none⟩ : Addr).add 0).block = b := by unfold Addr.add; split <;> simp_all
    rwa [e] at this
  | some q =>
    exfalso
    unfold World.cell? at h
    split at h
    · have e : ((⟨b, o, some q⟩ : Addr).add 0).spot.isSome = true := by unfold Addr.add; split <;> simp_all
      simp [e] at h
    · cases h

theorem cloneu_uni (a0 : Option Addr) (n cap0 : Nat) (z0 : List Int) (w : World) (h : IsRow .u64 w a0 n cap0 z0) (hl : n ≤ 10000) :
    Calls Try.prog 18 #[.slice a0 n cap0] w fun e w' => ∃ bo b, e = .returned (.slice bo n n) ∧ (0 < n → bo = some ⟨b, 0, none⟩) ∧ (∀ k, k < n → w'.cell? ⟨b, k, none⟩ = some (.int .u64 (z0.getD k 0))) ∧ (0 < n → b < w'.heap.size) ∧ Below w.heap.size w w' := by
  rcases h with ⟨rfl, rfl, rfl, rfl⟩ | ⟨x, rfl, hc, hm, hz, hcell, hwf⟩
  · refine (cloneu_nil w).mono ?_
    rintro e w' ⟨rfl, rfl⟩
    exact ⟨none, 0, rfl, fun h => by omega, fun k hk => by omega, fun h => by omega, Below.refl _ _⟩
  · rcases Nat.eq_zero_or_pos n with rfl | hp
    · refine (cloneu_any x 0 0 0 cap0 (fun k => z0.getD k 0) w hl (fun h => by omega) (fun k hk => by omega) (fun h => by omega)).mono ?_
      rintro e w' ⟨rfl, hS⟩
      exact ⟨_, w.heap.size, rfl, fun h => by omega, fun k hk => by omega, fun h => by omega, hS.bel⟩
    · obtain ⟨b, o, rfl, hb⟩ := addr_form2 (hcell 0 (by omega))
      refine (cloneu_any ⟨b, o, none⟩ b o n cap0 (fun k => z0.getD k 0) w hl (fun h => rfl) (fun k hk => ?_) (fun h => hb)).mono ?_
      · have := hcell k (by omega)
        rwa [Addr.add_mid] at this
      · rintro e w' ⟨rfl, hS⟩
        exact ⟨_, w.heap.size, rfl, fun h => rfl, hS.done, fun _ => hS.lt, hS.bel⟩

theorem row_wf {n cap0 : Nat} {z0 : List Int} {a0 : Option Addr} {w : World} (h : IsRow .u64 w a0 n cap0 z0) : ∀ k, k < n → 0 ≤ z0.getD k 0 ∧ z0.getD k 0 < 18446744073709551616 := by
  intro k hk
  rcases h with ⟨_, rfl, _⟩ | ⟨x, _, hc, _, hz, _, hwf⟩
  · omega
  · have hm : z0.getD k 0 ∈ z0 := by
      rw [List.getD_eq_getElem?_getD, List.getElem?_eq_getElem (by omega)]
      exact List.getElem_mem _
    have := hwf _ hm
    simp [Lit.wf, IntKind.min, IntKind.max, IntKind.bits, IntKind.signed] at this ⊢
    omega

set_option maxHeartbeats 4000000 in
set_option maxRecDepth 100000 in
theorem keep_walk (a0 : Option Addr) (n cap0 : Nat) (z0 : List Int) (w : World) (w0 : IsRow .u64 w a0 n cap0 z0) :
    Calls Try.prog 6 #[.slice a0 n cap0] w fun e w' => e = .returned (.bool true) ∧ Below w.heap.size w w' := by
  have hnm : n ≤ maxLen := by
    rcases w0 with ⟨_, rfl, _⟩ | ⟨_, _, h1, h2, _⟩
    · exact Nat.zero_le _
    · omega
  have hZ := bytes17 a0 n cap0 w hnm
  have hwf := hid (row_wf w0)
  unfold maxLen at hnm
  by_cases hn : n ≤ 4096
  · have hC := cloneu_uni a0 n cap0 z0 w w0 (by omega)
    obtain ⟨D, hD⟩ : ∃ D : Nat → Int, D = fun k => z0.getD k 0 := ⟨_, rfl⟩
    have HC : Hid (Calls Try.prog 18 #[.slice a0 n cap0] w fun e w' => ∃ bo b, e = .returned (.slice bo n n) ∧ (0 < n → bo = some ⟨b, 0, none⟩) ∧ (∀ k, k < n → w'.cell? ⟨b, k, none⟩ = some (.int .u64 (D k))) ∧ (0 < n → b < w'.heap.size) ∧ Below w.heap.size w w') := by rw [hD]; exact hC
    have HW : Hid (∀ k, k < n → 0 ≤ D k ∧ D k < 18446744073709551616) := by rw [hD]; exact hwf.out
    clear hC hwf hD w0
    have t1 : decide ((4096 : Int) < (n : Int)) = false := by simp; omega
    have t1' : ¬ ((4096 : Int) < (n : Int)) := by omega
    go_enter Try.func6, Try.ntmps6
    go_wp2_with fail
    refine hZ.mono ?_
    rintro e w' ⟨bz, rfl, rfl, hb4⟩
    obtain rfl := hb4 hn
    clear hZ hb4
    go_wp2_with fail
    refine HC.out.mono ?_
    rintro e wc ⟨bo, b, rfl, hbo, hbc, hblt, hBc⟩
    have Hbo := hid hbo
    have Hbc := hid hbc
    have Hblt := hid hblt
    have HBc := hid hBc
    have K0 : Hid (K1 wc ((wc.alloc (.cells #[] 31)).alloc (.cells #[] 41)) D 0 0 wc.heap.size (wc.heap.size + 1) (fun _ => 0)) := by
      have hs : (wc.alloc (.cells #[] 31)).heap.size = wc.heap.size + 1 := by simp
      have hs2 : ((wc.alloc (.cells #[] 31)).alloc (.cells #[] 41)).heap.size = wc.heap.size + 2 := by simp
      exact ⟨⟨rfl, fun k hk => by omega⟩, ⟨fun k hk => by omega, by omega⟩, ⟨fun k hk => by omega, by omega⟩, ((Below.refl _ wc).alloc (Nat.le_refl _) _).alloc (by omega) _⟩
    clear HC hbo hbc hblt hBc t1 t1' hnm
    go_wp2_with fail
    go_loopw [5, 3, 4, 6, 7] (fun k5 k3 k4 _ _ y => ∃ (t m p1 p2 : Nat) (I : Nat → Int), t ≤ n ∧ k5 = .int .i64 t ∧ k3 = .slice (some ⟨p1, 0, none⟩) m m ∧ k4 = .slice (some ⟨p2, 0, none⟩) m m ∧ Hid (K1 wc y D t m p1 p2 I)) (fun k5 _ _ _ _ _ => n - (intOf k5).toNat)
    case atStart => exact ⟨0, 0, wc.heap.size, wc.heap.size + 1, fun _ => 0, Nat.zero_le _, rfl, rfl, rfl, K0⟩
    case round =>
      obtain ⟨t, m, p1, p2, I, ht, rfl, rfl, rfl, H⟩ := hrel
      clear K0
      by_cases hlt : t < n
      · have hxx := Hbo.out (by omega)
        subst hxx
        have e0 := (H.out.bel.cell (p := ⟨b, t, none⟩) (Hblt.out (by omega))).trans (Hbc.out t hlt)
        have hm1 := kp_len H.out.keep
        have hlb := kp_lb H.out.keep
        have b0 : (0 : Int) ≤ (t : Int) := by omega
        have b1 : (t : Int) < (n : Int) := by omega
        obtain ⟨i, hi⟩ : ∃ i, i = at_ D t := ⟨_, rfl⟩
        rw [← hi] at hlb
        have Hi := hid hi
        have hL := lb_walk p1 m m i I (D t) wr H.out.ids.el hlb (by omega)
        have hin := hlb.le
        clear hi hlb
        go_wp2_with fail
        refine hL.mono ?_
        rintro e w'' ⟨rfl, rfl⟩
        clear hL
        by_cases h1 : i < m ∧ I i = D t
        · have e1 := H.out.ids.el i h1.1
          rw [h1.2] at e1
          have c0 : (0 : Int) ≤ (i : Int) := by omega
          have c1 : (i : Int) < (m : Int) := by omega
          have HN : Hid (K1 wc w'' D (t + 1) m p1 p2 I) := ⟨kp_same H.out.keep (by rw [← Hi.out]; exact h1), H.out.ids, H.out.res, H.out.bel⟩
          clear H h1
          go_wp2_with fail
          go_roundw
          case rel => exact ⟨t + 1, m, p1, p2, I, by omega, by go_num, rfl, rfl, HN⟩
          case measure => simp [intOf]; omega
        · by_cases h2 : 1000 ≤ m ∧ i = 0
          · have HN : Hid (K1 wc w'' D (t + 1) m p1 p2 I) := ⟨kp_low H.out.keep (by rw [← Hi.out]; exact h2), H.out.ids, H.out.res, H.out.bel⟩
            obtain ⟨h2, rfl⟩ := h2
            have e1 := H.out.ids.el 0 (by omega)
            have hne : ¬ (I 0 = D t) := fun e => h1 ⟨by omega, e⟩
            have c1 : (0 : Int) < (m : Int) := by omega
            have c2 : (1000 : Int) ≤ (m : Int) := by omega
            clear H h1
            go_wp2_with fail
            go_roundw
            case rel => exact ⟨t + 1, m, p1, p2, I, by omega, by go_num, rfl, rfl, HN⟩
            case measure => simp [intOf]; omega
          · obtain ⟨d, mm, hd, hm⟩ : ∃ d mm, ((m + 1 ≤ 1000 ∧ d = 0) ∨ (1000 < m + 1 ∧ d = 1)) ∧ mm + d = m + 1 := by
              by_cases h : m + 1 ≤ 1000
              · exact ⟨0, m + 1, .inl ⟨h, rfl⟩, rfl⟩
              · exact ⟨1, m, .inr ⟨by omega, rfl⟩, rfl⟩
            have hZ := zz_walk p1 p2 m i (D t) I (fun k => rres (I k)) [.int .i64 (wrap64 (D t)), .int .i64 0, .bool false, .bool false, .bool false, .int .i64 0, .bool false, .int .i64 0, .int .i64 0, .int .i64 0, .bool false, .bool false] w'' H.out.ids H.out.res (fun k _ => rres_is _) (rres_is (D t)) (by omega) hin d mm hd hm
            have h1' : at_ D t < m ∧ I (at_ D t) = D t → False := by rw [← Hi.out]; exact h1
            have h2' : 1000 ≤ m ∧ at_ D t = 0 → False := by rw [← Hi.out]; exact h2
            have Hd : Hid (((m + 1 ≤ 1000 ∧ d = 0) ∨ (1000 < m + 1 ∧ d = 1)) ∧ mm + d = m + 1) := ⟨hd, hm⟩
            have H1 := hid h1'
            have H2 := hid h2'
            clear hd hm h1' h2'
            have fact : Hid (∀ (w5 : World) (q1 q2 : Nat), Ids w5 q1 mm (fun k => insF I i (D t) (k + d)) → Rss w5 q2 mm (fun k => insF (fun k => rres (I k)) i [.int .i64 (wrap64 (D t)), .int .i64 0, .bool false, .bool false, .bool false, .int .i64 0, .bool false, .int .i64 0, .int .i64 0, .int .i64 0, .bool false, .bool false] (k + d)) → Below w''.heap.size w'' w5 → K1 wc w5 D (t + 1) mm q1 q2 (fun k => insF I i (D t) (k + d))) := by
              intro w5 q1 q2 hI5 hR5 hB5
              have hi := Hi.out
              subst hi
              refine ⟨kp_add H.out.keep H1.out H2.out d mm Hd.out.1 Hd.out.2, hI5, ⟨fun k hk => ?_, hR5.lt⟩, H.out.bel.trans (hB5.mono H.out.bel.size)⟩
              have := hR5.el k hk
              have e : insF (fun k => rres (I k)) (at_ D t) [.int .i64 (wrap64 (D t)), .int .i64 0, .bool false, .bool false, .bool false, .int .i64 0, .bool false, .int .i64 0, .int .i64 0, .int .i64 0, .bool false, .bool false] (k + d) = rres (insF I (at_ D t) (D t) (k + d)) := insF_map I (at_ D t) (D t) (k + d)
              rw [e] at this
              exact this
            have hel := H.out.ids.el
            have c0 : (0 : Int) ≤ (i : Int) := by omega
            clear H
            by_cases hil : i < m
            · by_cases hmm : 1000 ≤ m
              · skip
                have e1 := hel i hil
                have hne : ¬ (I i = D t) := fun e => h1 ⟨hil, e⟩
                have c1 : (i : Int) < (m : Int) := by omega
                have c2 : (1000 : Int) ≤ (m : Int) := by omega
                have c3 : ¬ ((i : Int) = 0) := by omega
                clear h1 h2 hel
                go_wp2_with fail
                refine hZ.mono ?_
                rintro e w5 ⟨q1, q2, rfl, hI5, hR5, hq1, hq2, hB5⟩
                clear hZ
                have HN := hid (fact.out w5 q1 q2 hI5 hR5 hB5)
                clear hI5 hR5 hB5 fact
                go_wp2_with fail
                go_roundw
                case rel => exact ⟨t + 1, mm, q1, q2, _, by omega, by go_num, rfl, rfl, HN⟩
                case measure => simp [intOf]; omega
              · skip
                have e1 := hel i hil
                have hne : ¬ (I i = D t) := fun e => h1 ⟨hil, e⟩
                have c1 : (i : Int) < (m : Int) := by omega
                have c2 : ¬ ((1000 : Int) ≤ (m : Int)) := by omega
                clear h1 h2 hel
                go_wp2_with fail
                refine hZ.mono ?_
                rintro e w5 ⟨q1, q2, rfl, hI5, hR5, hq1, hq2, hB5⟩
                clear hZ
                have HN := hid (fact.out w5 q1 q2 hI5 hR5 hB5)
                clear hI5 hR5 hB5 fact
                go_wp2_with fail
                go_roundw
                case rel => exact ⟨t + 1, mm, q1, q2, _, by omega, by go_num, rfl, rfl, HN⟩
                case measure => simp [intOf]; omega
            · by_cases hmm : 1000 ≤ m
              · skip
                have c1 : ¬ ((i : Int) < (m : Int)) := by omega
                have c2 : (1000 : Int) ≤ (m : Int) := by omega
                have c3 : ¬ ((i : Int) = 0) := by omega
                clear h1 h2 hel
                go_wp2_with fail
                refine hZ.mono ?_
                rintro e w5 ⟨q1, q2, rfl, hI5, hR5, hq1, hq2, hB5⟩
                clear hZ
                have HN := hid (fact.out w5 q1 q2 hI5 hR5 hB5)
                clear hI5 hR5 hB5 fact
                go_wp2_with fail
                go_roundw
                case rel => exact ⟨t + 1, mm, q1, q2, _, by omega, by go_num, rfl, rfl, HN⟩
                case measure => simp [intOf]; omega
              · skip
                have c1 : ¬ ((i : Int) < (m : Int)) := by omega
                have c2 : ¬ ((1000 : Int) ≤ (m : Int)) := by omega
                clear h1 h2 hel
                go_wp2_with fail
                refine hZ.mono ?_
                rintro e w5 ⟨q1, q2, rfl, hI5, hR5, hq1, hq2, hB5⟩
                clear hZ
                have HN := hid (fact.out w5 q1 q2 hI5 hR5 hB5)
                clear hI5 hR5 hB5 fact
                go_wp2_with fail
                go_roundw
                case rel => exact ⟨t + 1, mm, q1, q2, _, by omega, by go_num, rfl, rfl, HN⟩
                case measure => simp [intOf]; omega
      · obtain rfl : n = t := by omega
        clear hlt ht
        have hB : Hid (Below w'.heap.size w' wr) := HBc.out.trans (H.out.bel.mono HBc.out.size)
        have hcl : wc.heap.size ≤ wr.heap.size := H.out.bel.size
        have hbc : Hid (∀ k, k < n → wr.cell? ⟨b, k, none⟩ = some (.int .u64 (D k))) := fun k hk => (H.out.bel.cell (p := ⟨b, k, none⟩) (Hblt.out (by omega))).trans (Hbc.out k hk)
        have O0 : Hid (Own (wr.alloc (.cells #[] 31)) wr.heap.size wr.heap.size 0 0 (fun _ => 0)) := ⟨fun k hk => by omega, fun k hk => by omega, by simp, Nat.le_refl _, Nat.zero_le _, Nat.le_refl _⟩
        have B0 : Hid (Below wr.heap.size wr (wr.alloc (.cells #[] 31))) := (Below.refl _ _).alloc (Nat.le_refl _) _
        go_wp2_with fail
        go_loopw [9, 8] (fun k9 k8 y => ∃ (t g N cap : Nat) (A : Nat → Int), t ≤ n ∧ k9 = .int .i64 t ∧ k8 = .slice (some ⟨g, 0, none⟩) N cap ∧ Hid (st D t = (N, A)) ∧ Hid (Own y wr.heap.size g N cap A) ∧ Hid (Below wr.heap.size wr y)) (fun k9 _ _ => n - (intOf k9).toNat)
        case atStart => exact ⟨0, wr.heap.size, 0, 0, fun _ => 0, Nat.zero_le _, rfl, rfl, rfl, O0, B0⟩
        case round =>
          obtain ⟨t, g, N, cap, A, ht, rfl, rfl, Hst, HO, HB⟩ := hrel
          clear O0 B0
          by_cases hlt : t < n
          · have hxx := Hbo.out (by omega)
            subst hxx
            have e0 := (HB.out.cell (p := ⟨b, t, none⟩) (Nat.lt_of_lt_of_le (Hblt.out (by omega)) hcl)).trans (hbc.out t hlt)
            have hNt : N ≤ t := by
              have := st_le D t
              rw [Hst.out] at this
              exact this
            have hDs := dist_st _ g N cap t D A Hst.out _ HO.out (by omega) HB.out.size
            have b0 : (0 : Int) ≤ (t : Int) := by omega
            have b1 : (t : Int) < (n : Int) := by omega
            clear HO
            go_wp2_with fail
            refine hDs.mono ?_
            rintro e y2 ⟨g', N', cap', A', rfl, hst', hO', hB'⟩
            clear hDs
            have HN1 := hid hst'
            have HN2 := hid hO'
            have HN3 := hid (HB.out.trans hB')
            clear hst' hO' hB' HB Hst
            go_wp2_with fail
            go_roundw
            case rel => exact ⟨t + 1, g', N', cap', A', by omega, by go_num, rfl, HN1, HN2, HN3⟩
            case measure => simp [intOf]; omega
          · obtain rfl : n = t := by omega
            clear hlt ht
            have hK : Keep N A m I := by
              have := H.out.keep
              unfold KP at this
              rw [Hst.out] at this
              exact this
            have hin : ∀ k, k < N → 0 ≤ A k ∧ A k < 18446744073709551616 := by
              have := st_in D (fun v => 0 ≤ v ∧ v < 18446744073709551616) n HW.out
              rw [Hst.out] at this
              exact this
            have hNn : N ≤ n := by
              have := st_le D n
              rw [Hst.out] at this
              exact this
            have hp1 : ∀ k, k < m → wr.cell? ⟨p1, k, none⟩ = some (.int .u64 (I k)) := fun k hk => (HB.out.cell (p := ⟨p1, k, none⟩) H.out.ids.lt).trans (H.out.ids.el k hk)
            have hp2 : ∀ k, k < m → wr.cell? ⟨p2, k * 12, none⟩ = some (.int .i64 (wrap64 (I k))) := fun k hk => (HB.out.cell (p := ⟨p2, k * 12, none⟩) H.out.res.lt).trans (H.out.res.el k hk 0 _ rfl)
            have hg : ∀ k, k < N → wr.cell? ⟨g, k, none⟩ = some (.int .u64 (A k)) := HO.out.el
            have hcp := HO.out.cp
            have HBf : Hid (Below w'.heap.size w' wr) := hB.out.trans (HB.out.mono hB.out.size)
            by_cases hN : 1000 < N
            · obtain ⟨c, rfl⟩ : ∃ c, N = c + 1000 := ⟨N - 1000, by omega⟩
              have hm1 : 1000 = m := by have := hK.len; omega
              subst hm1
              have F1 : Hid (∀ k, k < 1000 → wr.cell? ⟨p1, k, none⟩ = some (.int .u64 (A (c + k))) ∧ wr.cell? ⟨p2, k * 12, none⟩ = some (.int .i64 (wrap64 (A (c + k)))) ∧ wr.cell? ⟨g, c + k, none⟩ = some (.int .u64 (A (c + k))) ∧ IntKind.u64.wrap (wrap64 (A (c + k))) = A (c + k)) := by
                intro k hk
                have e : I k = A (c + k) := by
                  rw [hK.el k hk]; congr 1; omega
                have h1 := hp1 k hk
                have h2 := hp2 k hk
                rw [e] at h1 h2
                exact ⟨h1, h2, hg _ (by omega), wrap_back (hin _ (by omega)).1 (hin _ (by omega)).2⟩
              have s1 : decide ((1000 : Int) < (c : Int) + 1000) = true := by simp; omega
              have s1' : ((1000 : Int) < (c : Int) + 1000) := by omega
              have s2 : IntKind.i64.wrap ((c : Int) + 1000 - 1000) = (c : Int) := by rw [IntKind.wrap_i64]; omega
              have s3 : (c : Int) ≤ (c : Int) + 1000 := by omega
              have s4 : ¬ (cap = c) := by omega
              have s5 : (0 : Int) ≤ (c : Int) := by omega
              have s6 : c ≤ cap := by omega
              clear hK hin hp1 hp2 hg H HO HB hB HW Hst hN
              go_wp2_with fail
              go_loopw [12] (fun k12 y => ∃ k : Nat, k ≤ 1000 ∧ k12 = .int .i64 k ∧ Hid ((∀ a, y.cell? a = wr.cell? a) ∧ Below w'.heap.size w' y)) (fun k12 _ => 1000 - (intOf k12).toNat)
              case atStart => exact ⟨0, Nat.zero_le _, rfl, ⟨fun _ => rfl, HBf.out⟩⟩
              case round =>
                obtain ⟨k, hk, rfl, HH⟩ := hrel
                by_cases hlt : k < 1000
                · obtain ⟨e1, e2, e3, e4⟩ := F1.out k hlt
                  rw [← HH.out.1] at e1 e2 e3
                  have HN : Hid (∀ q, (∀ a, (World.drewN _ q).cell? a = _) ∧ Below w'.heap.size w' (World.drewN _ q)) := fun q => ⟨fun a => HH.out.1 a, below_drewN HH.out.2 q⟩
                  have b0 : (0 : Int) ≤ (k : Int) := by omega
                  have b1 : (k : Int) < (1000 : Int) := by omega
                  clear HH
                  go_wp2_with fail
                  go_quiet (fail)
                  go_wp2_with fail
                  go_roundw
                  case rel => exact ⟨k + 1, by omega, by go_num, hid (HN.out _)⟩
                  case measure => simp [intOf]; omega
                · obtain rfl : k = 1000 := by omega
                  clear hlt hk
                  go_wp2_with fail
                  go_ret
                  exact ⟨rfl, HH.out.2⟩
            · have hm1 : m = N := by have := hK.len; omega
              subst hm1
              have F1 : Hid (∀ k, k < m → wr.cell? ⟨p1, k, none⟩ = some (.int .u64 (A k)) ∧ wr.cell? ⟨p2, k * 12, none⟩ = some (.int .i64 (wrap64 (A k))) ∧ wr.cell? ⟨g, k, none⟩ = some (.int .u64 (A k)) ∧ IntKind.u64.wrap (wrap64 (A k)) = A k) := by
                intro k hk
                have e : I k = A k := by
                  rw [hK.el k hk]; congr 1; omega
                have h1 := hp1 k hk
                have h2 := hp2 k hk
                rw [e] at h1 h2
                exact ⟨h1, h2, hg _ (by omega), wrap_back (hin _ (by omega)).1 (hin _ (by omega)).2⟩
              have s1 : decide ((1000 : Int) < (m : Int)) = false := by simp; omega
              have s1' : ¬ ((1000 : Int) < (m : Int)) := by omega
              clear hK hin hp1 hp2 hg H HO HB hB HW Hst hN
              go_wp2_with fail
              go_loopw [12] (fun k12 y => ∃ k : Nat, k ≤ m ∧ k12 = .int .i64 k ∧ Hid ((∀ a, y.cell? a = wr.cell? a) ∧ Below w'.heap.size w' y)) (fun k12 _ => m - (intOf k12).toNat)
              case atStart => exact ⟨0, Nat.zero_le _, rfl, ⟨fun _ => rfl, HBf.out⟩⟩
              case round =>
                obtain ⟨k, hk, rfl, HH⟩ := hrel
                by_cases hlt : k < m
                · obtain ⟨e1, e2, e3, e4⟩ := F1.out k hlt
                  rw [← HH.out.1] at e1 e2 e3
                  have HN : Hid (∀ q, (∀ a, (World.drewN _ q).cell? a = _) ∧ Below w'.heap.size w' (World.drewN _ q)) := fun q => ⟨fun a => HH.out.1 a, below_drewN HH.out.2 q⟩
                  have b0 : (0 : Int) ≤ (k : Int) := by omega
                  have b1 : (k : Int) < (m : Int) := by omega
                  clear HH
                  go_wp2_with fail
                  go_quiet (fail)
                  go_wp2_with fail
                  go_roundw
                  case rel => exact ⟨k + 1, by omega, by go_num, hid (HN.out _)⟩
                  case measure => simp [intOf]; omega
                · obtain rfl : k = m := by omega
                  clear hlt hk
                  go_wp2_with fail
                  go_ret
                  exact ⟨rfl, HH.out.2⟩
  · have t1 : decide ((4096 : Int) < (n : Int)) = true := by simp; omega
    have t1' : ((4096 : Int) < (n : Int)) := by omega
    go_enter Try.func6, Try.ntmps6
    go_wp2_with fail
    refine hZ.mono ?_
    rintro e w' ⟨bz, rfl, rfl, hb4⟩
    cases bz with
    | true =>
      go_wp2_with fail
      go_ret
      exact ⟨rfl, Below.refl _ _⟩
    | false =>
      go_wp2_with fail
      go_ret
      exact ⟨rfl, Below.refl _ _⟩
end Go.Proofs.Qxb6604127a
