/-
  FACTS FOR THE WALK OF FnSessionWithKeepsHighest.
-/
import Derived.Test.Qxb6604127aDistWalk
namespace Go.Proofs.Qxb6604127a
open Go.RowKit

def rres (x : Int) : List Value := [.int .i64 (wrap64 x), .int .i64 0, .bool false, .bool false, .bool false, .int .i64 0, .bool false, .int .i64 0, .int .i64 0, .int .i64 0, .bool false, .bool false]

theorem rres_is (x : Int) : IsRes (rres x) := ⟨_, _, _, _, _, _, _, _, _, _, _, _, rfl⟩

theorem insF_map (I : Nat → Int) (i : Nat) (x : Int) (k : Nat) : insF (fun k => rres (I k)) i (rres x) k = rres (insF I i x k) := by
  unfold insF
  split
  · rfl
  · split <;> rfl

theorem st_mem {D : Nat → Int} {t : Nat} (h : lbN (st D t).1 (st D t).2 (D t) < (st D t).1 ∧ (st D t).2 (lbN (st D t).1 (st D t).2 (D t)) = D t) : st D (t + 1) = st D t := by
  rw [st, if_pos h]

theorem st_new {D : Nat → Int} {t : Nat} (h : ¬ (lbN (st D t).1 (st D t).2 (D t) < (st D t).1 ∧ (st D t).2 (lbN (st D t).1 (st D t).2 (D t)) = D t)) : st D (t + 1) = ((st D t).1 + 1, insF (st D t).2 (lbN (st D t).1 (st D t).2 (D t)) (D t)) := by
  rw [st, if_neg h]

def KP (D : Nat → Int) (t n : Nat) (I : Nat → Int) : Prop := Keep (st D t).1 (st D t).2 n I

def at_ (D : Nat → Int) (t : Nat) : Nat := lbN (st D t).1 (st D t).2 (D t) - ((st D t).1 - 1000)

theorem kp_len {D : Nat → Int} {t n : Nat} {I : Nat → Int} (h : KP D t n I) : n ≤ 1000 := by
  have := h.len; omega

theorem kp_lb {D : Nat → Int} {t n : Nat} {I : Nat → Int} (h : KP D t n I) : LB n I (D t) (at_ D t) := keep_lb h (lbN_ok _ _ _ (st_srt D t))

theorem kp_same {D : Nat → Int} {t n : Nat} {I : Nat → Int} (h : KP D t n I) (h1 : at_ D t < n ∧ I (at_ D t) = D t) : KP D (t + 1) n I := by
  by_cases hm : lbN (st D t).1 (st D t).2 (D t) < (st D t).1 ∧ (st D t).2 (lbN (st D t).1 (st D t).2 (D t)) = D t
  · unfold KP; rw [st_mem hm]; exact h
  · exact absurd h1 (keep_not (st_srt D t) h (lbN_ok _ _ _ (st_srt D t)) hm)

theorem kp_low {D : Nat → Int} {t n : Nat} {I : Nat → Int} (h : KP D t n I) (h1 : 1000 ≤ n ∧ at_ D t = 0) : KP D (t + 1) n I := by
  by_cases hm : lbN (st D t).1 (st D t).2 (D t) < (st D t).1 ∧ (st D t).2 (lbN (st D t).1 (st D t).2 (D t)) = D t
  · unfold KP; rw [st_mem hm]; exact h
  · unfold KP; rw [st_new hm]; exact keep_low h h1.1 h1.2

theorem kp_add {D : Nat → Int} {t n : Nat} {I : Nat → Int} (h : KP D t n I) (h1 : ¬ (at_ D t < n ∧ I (at_ D t) = D t)) (h2 : ¬ (1000 ≤ n ∧ at_ D t = 0)) (d m : Nat) (hd : (n + 1 ≤ 1000 ∧ d = 0) ∨ (1000 < n + 1 ∧ d = 1)) (hm : m + d = n + 1) :
    KP D (t + 1) m (fun k => insF I (at_ D t) (D t) (k + d)) := by
  by_cases hmm : lbN (st D t).1 (st D t).2 (D t) < (st D t).1 ∧ (st D t).2 (lbN (st D t).1 (st D t).2 (D t)) = D t
  · rcases keep_skip h hmm with e | e
    · exact absurd e h1
    · exact absurd e h2
  · unfold KP; rw [st_new hmm]
    rcases hd with ⟨e, rfl⟩ | ⟨e, rfl⟩
    · obtain rfl : m = n + 1 := hm
      exact keep_small h (lbN_ok _ _ _ (st_srt D t)) e
    · obtain rfl : m = n := by omega
      exact keep_big h (lbN_ok _ _ _ (st_srt D t)) e

/-- The first loop. -/
structure K1 (wc y : World) (D : Nat → Int) (t n p1 p2 : Nat) (I : Nat → Int) : Prop where
  keep : KP D t n I
  ids : Ids y p1 n I
  res : Rss y p2 n (fun k => rres (I k))
  bel : Below wc.heap.size wc y

/-- The second loop: one call of insertDistinct. -/
theorem dist_st (B g N cap t : Nat) (D : Nat → Int) (A : Nat → Int) (hst : st D t = (N, A)) (w : World) (h : Own w B g N cap A) (hn : N ≤ 10000) (hBw : B ≤ w.heap.size) :
    Calls Try.prog 20 #[.slice (some ⟨g, 0, none⟩) N cap, .int .u64 (D t)] w fun e w' => ∃ g' N' cap' A', e = .returned (.slice (some ⟨g', 0, none⟩) N' cap') ∧ st D (t + 1) = (N', A') ∧ Own w' B g' N' cap' A' ∧ Below B w w' := by
  have hs := st_srt D t
  have hl := lbN_ok (st D t).2 (D t) (st D t).1 hs
  have hm := @st_mem D t
  have hw := @st_new D t
  rw [hst] at hs hl hm hw
  simp only at hs hl hm hw
  by_cases hmm : lbN N A (D t) < N ∧ A (lbN N A (D t)) = D t
  · refine (dist_old B g N cap _ A (D t) w h hl hn hmm.1 hmm.2).mono ?_
    rintro e w' ⟨rfl, rfl⟩
    exact ⟨g, N, cap, A, rfl, hm hmm, h, Below.refl _ _⟩
  · refine (dist_new B g N cap _ A (D t) w h hl hn hBw hmm).mono ?_
    rintro e w' ⟨g', cap', rfl, hO, hB⟩
    exact ⟨g', N + 1, cap', _, rfl, hw hmm, hO, hB⟩

theorem wrap_back {x : Int} (h0 : 0 ≤ x) (h1 : x < 18446744073709551616) : IntKind.u64.wrap (wrap64 x) = x := by
  rw [IntKind.wrap_u64]; unfold wrap64; omega
end Go.Proofs.Qxb6604127a
