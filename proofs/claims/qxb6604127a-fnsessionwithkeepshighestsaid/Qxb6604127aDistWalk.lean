/-
  THE WALK OF insertDistinct.
-/
import Derived.Test.Qxb6604127aLowWalk
namespace Go.Proofs.Qxb6604127a
open Go.RowKit

/-- A row of uint64 of one's own: 'cap' places, the first n hold A. -/
structure Own (w : World) (B g n cap : Nat) (A : Nat → Int) : Prop where
  el : ∀ k, k < n → w.cell? ⟨g, k, none⟩ = some (.int .u64 (A k))
  th : w.there g 0 cap
  lt : g < w.heap.size
  cp : n ≤ cap
  mx : cap ≤ maxLen
  hB : B ≤ g

def us (A : Nat → Int) (n : Nat) : List Value := (List.range n).map fun k => .int .u64 (A k)

theorem us_len (A : Nat → Int) (n : Nat) : (us A n).length = n := by simp [us]
theorem us_get (A : Nat → Int) (n k : Nat) (h : k < n) : (us A n)[k]? = some (.int .u64 (A k)) := by
  simp [us, List.getElem?_range h]
theorem us_range {w : World} {g n : Nat} {A : Nat → Int} : w.rangeAt g 0 (us A n) ↔ ∀ k, k < n → w.cell? ⟨g, k, none⟩ = some (.int .u64 (A k)) := by
  constructor
  · intro h k hk
    have := h k _ (us_get A n k hk)
    rwa [Nat.zero_add] at this
  · intro h k v hv
    have hk : k < n := by have := (List.getElem?_eq_some_iff.1 hv).1; rwa [us_len] at this
    rw [us_get A n k hk] at hv
    rw [Nat.zero_add, ← hv]; exact h k hk

/-- What 'append(a, 0)' leaves. -/
theorem app_zero (B g n cap vb : Nat) (A : Nat → Int) (w : World) (h : Own w B g n cap A) (hv : w.cell? ⟨vb, 0, none⟩ = some (.int .u64 0)) (hn : n ≤ 100000) (hBw : B ≤ w.heap.size) :
    ∃ g' cap' W, (∀ ty, (Builtin.append_ #[36, 36] ty #[.slice (some ⟨g, 0, none⟩) n cap, .slice (some ⟨vb, 0, none⟩) 1 1]).run Try.prog w = .ok (.slice (some ⟨g', 0, none⟩) (n + 1) cap') W) ∧
      (∀ k, k < n → W.cell? ⟨g', k, none⟩ = some (.int .u64 (A k))) ∧ W.there g' 0 cap' ∧ g' < W.heap.size ∧ n + 1 ≤ cap' ∧ cap' ≤ maxLen ∧ B ≤ g' ∧ Below B w W := by
  obtain ⟨i0, hi, hz0, hz1, hz2⟩ := info_parts Try.info31
  have hnew : ∀ j u, [Value.int .u64 0][j]? = some u → w.cell? ((⟨vb, 0, none⟩ : Addr).add j) = some u := by
    intro j u hu
    cases j with
    | zero => simp at hu; subst hu; exact hv
    | succ j => simp at hu
  rcases Nat.lt_or_ge n cap with hr | hr
  · refine ⟨g, cap, w.setCells g (0 + n * i0.size) [.int .u64 0], fun ty => ?_, ?_, ?_, ?_, hr, h.mx, h.hB, ?_⟩
    · refine run_append_room_cells (P := Try.prog) w 36 ty 31 i0 Try.underlying36 hi g 0 n cap ⟨vb, 0, none⟩ 1 1 [.int .u64 0] (by rw [hz1]; rfl) hnew (by simp [Value.oneCell']) hr (fun j hj => ?_) (fun j hj => ?_)
      · have hj0 : j = 0 := by simp at hj; exact hj
        subst hj0
        have := (h.th n hr).1
        rw [hz1]; simpa using this
      · have hj0 : j = 0 := by simp at hj; exact hj
        subst hj0
        have := (h.th n hr).2
        rw [hz1]; simpa using this
    · intro k hk
      rw [hz1]
      show (w.setCell ⟨g, 0 + n * 1, none⟩ _).cell? _ = _
      rw [sc_ne _ _ _ _ _ _ (.inr (by omega))]; exact h.el k hk
    · exact World.there_setCells h.th _ _ _
    · exact Nat.lt_of_lt_of_le h.lt (below_setCells (B := 0) (Nat.zero_le _) _ _ _ (Below.refl _ _)).size
    · exact below_setCells h.hB _ _ _ (Below.refl _ _)
  · have hcn : cap = n := by have := h.cp; omega
    subst hcn
    have hru := us_range.2 h.el
    refine ⟨w.heap.size, grownCap w (cap + 1) cap 31, _, fun ty => run_append_grow (P := Try.prog) w 36 ty 31 i0 (.int .u64 0) Try.underlying36 hi hz0 ⟨g, 0, none⟩ cap cap (us A cap) (by rw [us_len, hz1]; omega) (range_add hru) ⟨vb, 0, none⟩ 1 1 [.int .u64 0] (by rw [hz1]; rfl) hnew (by omega) (by omega) (growslice_fits (by omega) (by rw [hz2]; omega)), ?_, ?_, lt_alloc w _, grownCap_ge w _ _ _, grownCap_le_maxLen w _ _ _ (by unfold maxLen; omega), hBw, (Below.refl _ w).drew.alloc hBw _⟩
    · have hc := (cells_new w ((us A cap).toArray ++ [Value.int .u64 0].toArray ++ Builtin.zeroCells (Value.int .u64 0).cells (grownCap w (cap + 1) cap 31 - (cap + 1))) 31).1
      have ht : ((us A cap).toArray ++ [Value.int .u64 0].toArray ++ Builtin.zeroCells (Value.int .u64 0).cells (grownCap w (cap + 1) cap 31 - (cap + 1))).toList = us A cap ++ ([.int .u64 0] ++ (Builtin.zeroCells (Value.int .u64 0).cells (grownCap w (cap + 1) cap 31 - (cap + 1))).toList) := by simp
      rw [ht, range_append] at hc
      exact us_range.1 hc.1
    · have hc := (cells_new w ((us A cap).toArray ++ [Value.int .u64 0].toArray ++ Builtin.zeroCells (Value.int .u64 0).cells (grownCap w (cap + 1) cap 31 - (cap + 1))) 31).2
      have hg := grownCap_ge w (cap + 1) cap 31
      have hs : ((us A cap).toArray ++ [Value.int .u64 0].toArray ++ Builtin.zeroCells (Value.int .u64 0).cells (grownCap w (cap + 1) cap 31 - (cap + 1))).size = grownCap w (cap + 1) cap 31 := by
        simp only [Array.size_append, List.size_toArray, size_zeroCells, us_len]
        have : (Value.int .u64 0).cells.size = 1 := rfl
        rw [this]; simp only [List.length_cons, List.length_nil]; omega
      rwa [hs] at hc

/-- The loop of insertDistinct: the cells above k are moved. -/
structure Mv (B : Nat) (w x : World) (g n cap k : Nat) (A : Nat → Int) : Prop where
  lo : ∀ t, t < k → x.cell? ⟨g, t, none⟩ = some (.int .u64 (A t))
  hi : ∀ t, k ≤ t → t < n → x.cell? ⟨g, t + 1, none⟩ = some (.int .u64 (A t))
  th : x.there g 0 cap
  lt : g < x.heap.size
  cp : n + 1 ≤ cap
  mx : cap ≤ maxLen
  hB : B ≤ g
  bel : Below B w x

theorem Mv.some {B : Nat} {w x : World} {g n cap k : Nat} {A : Nat → Int} (h : Mv B w x g n cap k A) {t : Nat} (ht : t ≤ n) : (∃ u, x.cell? ⟨g, t, none⟩ = some u) ∧ x.frozen? ⟨g, t, none⟩ = false := by
  have := h.th t (by have := h.cp; omega)
  rw [Nat.zero_add] at this
  exact ⟨Option.isSome_iff_exists.1 this.1, this.2⟩

theorem Mv.step {B : Nat} {w x : World} {g n cap k : Nat} {A : Nat → Int} (h : Mv B w x g n cap (k + 1) A) (hk : k < n) : Mv B w (x.setCell ⟨g, k + 1, none⟩ (.int .u64 (A k))) g n cap k A := by
  refine ⟨fun t ht => ?_, fun t h1 h2 => ?_, there_setCell h.th, by simpa [World.setCell] using h.lt, h.cp, h.mx, h.hB, h.bel.setCell (p := ⟨g, k + 1, none⟩) h.hB _⟩
  · rw [sc_ne _ _ _ _ _ _ (.inr (by omega))]; exact h.lo t (by omega)
  · by_cases e : k = t
    · subst e
      obtain ⟨u, hu⟩ := (h.some (t := k + 1) (by omega)).1
      exact sc_eq hu
    · rw [sc_ne _ _ _ _ _ _ (.inr (by omega))]; exact h.hi t (by omega) h2

theorem Mv.fin {B : Nat} {w x : World} {g n cap j : Nat} {A : Nat → Int} {v : Int} (h : Mv B w x g n cap j A) (hj : j ≤ n) : Own (x.setCell ⟨g, j, none⟩ (.int .u64 v)) B g (n + 1) cap (insF A j v) ∧ Below B w (x.setCell ⟨g, j, none⟩ (.int .u64 v)) := by
  refine ⟨⟨fun t ht => ?_, there_setCell h.th, by simpa [World.setCell] using h.lt, h.cp, h.mx, h.hB⟩, h.bel.setCell (p := ⟨g, j, none⟩) h.hB _⟩
  rcases Nat.lt_trichotomy t j with e | e | e
  · rw [sc_ne _ _ _ _ _ _ (.inr (by omega)), insF_lt e]; exact h.lo t e
  · subst e
    obtain ⟨u, hu⟩ := (h.some (t := t) (by omega)).1
    rw [insF_eq]; exact sc_eq hu
  · obtain ⟨t', rfl⟩ : ∃ t', t = t' + 1 := ⟨t - 1, by omega⟩
    rw [sc_ne _ _ _ _ _ _ (.inr (by omega)), insF_gt (by omega)]; exact h.hi t' (by omega) (by omega)

set_option maxHeartbeats 1000000 in
set_option maxRecDepth 100000 in
theorem dist_old (B g n cap j : Nat) (A : Nat → Int) (x : Int) (w : World) (h : Own w B g n cap A) (hj : LB n A x j) (hn : n ≤ 10000) (h1 : j < n) (h2 : A j = x) :
    Calls Try.prog 20 #[.slice (some ⟨g, 0, none⟩) n cap, .int .u64 x] w fun e w' => e = .returned (.slice (some ⟨g, 0, none⟩) n cap) ∧ w' = w := by
  have hL := lb_walk g n cap j A x w h.el hj hn
  have e1 := h.el j h1
  rw [h2] at e1
  have b0 : (0 : Int) ≤ (j : Int) := by omega
  have b1 : (j : Int) < (n : Int) := by omega
  clear h hj h2
  go_enter Try.func20, Try.ntmps20
  go_wp2_with fail
  refine hL.mono ?_
  rintro e w' ⟨rfl, rfl⟩
  clear hL
  go_wp2_with fail
  go_ret
  exact ⟨rfl, rfl⟩

set_option maxHeartbeats 1000000 in
set_option maxRecDepth 100000 in
theorem dist_new (B g n cap j : Nat) (A : Nat → Int) (x : Int) (w : World) (h : Own w B g n cap A) (hj : LB n A x j) (hn : n ≤ 10000) (hBw : B ≤ w.heap.size) (h1 : ¬ (j < n ∧ A j = x)) :
    Calls Try.prog 20 #[.slice (some ⟨g, 0, none⟩) n cap, .int .u64 x] w fun e w' => ∃ g' cap', e = .returned (.slice (some ⟨g', 0, none⟩) (n + 1) cap') ∧ Own w' B g' (n + 1) cap' (insF A j x) ∧ Below B w w' := by
  have hL := lb_walk g n cap j A x w h.el hj hn
  have hjn := hj.le
  have hB1 : Below B w (w.alloc (.cells #[.int .u64 0] 31)) := (Below.refl _ w).alloc hBw _
  have hB2 : Below w.heap.size w (w.alloc (.cells #[.int .u64 0] 31)) := (Below.refl _ w).alloc (Nat.le_refl _) _
  have hO1 : Own (w.alloc (.cells #[.int .u64 0] 31)) B g n cap A := ⟨fun k hk => (hB2.cell (p := ⟨g, k, none⟩) h.lt).trans (h.el k hk), there_below h.th hB2 h.lt, Nat.lt_of_lt_of_le h.lt hB2.size, h.cp, h.mx, h.hB⟩
  obtain ⟨g', cap', W, hr, hlo, hth, hlt, hcp, hmx, hBg, hbel⟩ := app_zero B g n cap w.heap.size A _ hO1 (range_alloc_new w [.int .u64 0] 31 0 _ rfl) (by omega) (Nat.le_trans hBw hB2.size)
  have M0 : Hid (Mv B w W g' n cap' n A) := ⟨hlo, fun t h1 h2 => by omega, hth, hlt, hcp, hmx, hBg, hB1.trans hbel⟩
  have hcel := hid h.el
  clear hB1 hB2 hO1 hlo hth hlt hmx hBg hbel hj
  have b0 : (0 : Int) ≤ (j : Int) := by omega
  have r1 : IntKind.i64.wrap ((n : Int) + 1 - 1) = (n : Int) := by rw [IntKind.wrap_i64]; omega
  go_enter Try.func20, Try.ntmps20
  go_wp2_with fail
  refine hL.mono ?_
  rintro e w' ⟨rfl, rfl⟩
  clear hL
  by_cases hjl : j < n
  · have e1 := hcel.out j hjl
    have hne : ¬ (A j = x) := fun e => h1 ⟨hjl, e⟩
    have b1 : (j : Int) < (n : Int) := by omega
    go_wp2_with (at_builtin; refine Lib.wpList_append_run _ rfl _ _ _ _ rfl _ _ rfl rfl _ _ (hr _) ?_)
    go_loopw [6] (fun k y => ∃ t : Nat, j ≤ t ∧ t ≤ n ∧ k = .int .i64 t ∧ Hid (Mv B w' y g' n cap' t A)) (fun k _ => (intOf k).toNat)
    case atStart => exact ⟨n, hjn, Nat.le_refl _, by go_num, M0⟩
    case round =>
      obtain ⟨t, h2, h3, rfl, H⟩ := hrel
      clear M0 hr
      by_cases hlt : j < t
      · obtain ⟨s, rfl⟩ : ∃ s, t = s + 1 := ⟨t - 1, by omega⟩
        have e3 := H.out.lo s (by omega)
        obtain ⟨⟨u, hu⟩, hf⟩ := H.out.some (t := s + 1) h3
        have HN := hid (H.out.step (by omega))
        have c0 : (0 : Int) ≤ (s : Int) := by omega
        have c1 : (s : Int) < (n : Int) + 1 := by omega
        have c2 : (s : Int) + 1 < (n : Int) + 1 := by omega
        have c3 : IntKind.i64.wrap ((s : Int) + 1 - 1) = (s : Int) := by rw [IntKind.wrap_i64]; omega
        have c4 : (j : Int) < (s : Int) + 1 := by omega
        clear H
        go_wp2
        go_roundw
        case rel => exact ⟨s, by omega, by omega, by go_num, HN⟩
        case measure => simp [intOf]
      · obtain rfl : j = t := by omega
        obtain ⟨⟨u, hu⟩, hf⟩ := H.out.some (t := j) h3
        have HF := hid (H.out.fin (v := x) h3)
        have c1 : (j : Int) < (n : Int) + 1 := by omega
        clear H hlt
        go_wp2
        go_ret
        exact ⟨g', cap', rfl, HF.out.1, HF.out.2⟩
  · have b1 : ¬ ((j : Int) < (n : Int)) := by omega
    go_wp2_with (at_builtin; refine Lib.wpList_append_run _ rfl _ _ _ _ rfl _ _ rfl rfl _ _ (hr _) ?_)
    go_loopw [6] (fun k y => ∃ t : Nat, j ≤ t ∧ t ≤ n ∧ k = .int .i64 t ∧ Hid (Mv B w' y g' n cap' t A)) (fun k _ => (intOf k).toNat)
    case atStart => exact ⟨n, hjn, Nat.le_refl _, by go_num, M0⟩
    case round =>
      obtain ⟨t, h2, h3, rfl, H⟩ := hrel
      clear M0 hr
      by_cases hlt : j < t
      · exfalso; omega
      · obtain rfl : j = t := by omega
        obtain ⟨⟨u, hu⟩, hf⟩ := H.out.some (t := j) h3
        have HF := hid (H.out.fin (v := x) h3)
        have c1 : (j : Int) < (n : Int) + 1 := by omega
        clear H hlt
        go_wp2
        go_ret
        exact ⟨g', cap', rfl, HF.out.1, HF.out.2⟩
end Go.Proofs.Qxb6604127a
