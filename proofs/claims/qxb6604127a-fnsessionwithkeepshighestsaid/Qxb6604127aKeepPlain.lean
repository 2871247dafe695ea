/-
  THE PLAIN LAW OF FnSessionWithKeepsHighest: no Go in sight.
-/
import Derived.Test.Qxb6604127aZZWalk
namespace Go.Proofs.Qxb6604127a

/-- j is where x sorts among the first N of A. -/
structure LB (N : Nat) (A : Nat → Int) (x : Int) (j : Nat) : Prop where
  le : j ≤ N
  lo : ∀ k, k < j → A k < x
  hi : ∀ k, j ≤ k → k < N → x ≤ A k

def Srt (N : Nat) (A : Nat → Int) : Prop := ∀ a b, a < b → b < N → A a < A b

def lbN : Nat → (Nat → Int) → Int → Nat
  | 0, _, _ => 0
  | N + 1, A, x => if A N < x then N + 1 else lbN N A x

theorem lbN_ok (A : Nat → Int) (x : Int) : ∀ N, Srt N A → LB N A x (lbN N A x)
  | 0, _ => ⟨Nat.le_refl _, fun k hk => absurd hk (Nat.not_lt_zero _), fun k _ hk => absurd hk (Nat.not_lt_zero _)⟩
  | N + 1, hs => by
    unfold lbN
    split
    · rename_i h
      refine ⟨Nat.le_refl _, fun k hk => ?_, fun k h1 h2 => by omega⟩
      rcases Nat.lt_or_ge k N with hkN | hkN
      · have := hs k N hkN (by omega); omega
      · obtain rfl : k = N := by omega
        exact h
    · rename_i h
      have ih := lbN_ok A x N (fun a b h1 h2 => hs a b h1 (by omega))
      refine ⟨by have := ih.le; omega, ih.lo, fun k h1 h2 => ?_⟩
      rcases Nat.lt_or_ge k N with hkN | hkN
      · exact ih.hi k h1 hkN
      · obtain rfl : k = N := by omega
        omega

/-- The distinct numbers of the first t of adds, ascending. -/
def st (D : Nat → Int) : Nat → Nat × (Nat → Int)
  | 0 => (0, fun _ => 0)
  | t + 1 =>
    let s := st D t
    let j := lbN s.1 s.2 (D t)
    if j < s.1 ∧ s.2 j = D t then s else (s.1 + 1, insF s.2 j (D t))

theorem insF_lt {α : Type} {f : Nat → α} {i : Nat} {v : α} {k : Nat} (h : k < i) : insF f i v k = f k := by simp [insF, h]
theorem insF_eq {α : Type} {f : Nat → α} {i : Nat} {v : α} : insF f i v i = v := by simp [insF]
theorem insF_gt {α : Type} {f : Nat → α} {i : Nat} {v : α} {k : Nat} (h : i ≤ k) : insF f i v (k + 1) = f k := by
  have h1 : ¬ (k + 1 < i) := by omega
  have h2 : ¬ (k + 1 = i) := by omega
  simp [insF, h1, h2]

theorem srt_ins {N : Nat} {A : Nat → Int} {x : Int} {j : Nat} (hs : Srt N A) (hj : LB N A x j) (hn : ¬ (j < N ∧ A j = x)) : Srt (N + 1) (insF A j x) := by
  have hle := hj.le
  have up : ∀ k, j ≤ k → k < N → x < A k := by
    intro k h1 h2
    have h3 := hj.hi j (Nat.le_refl _) (by omega)
    have h4 : x ≠ A j := fun e => hn ⟨by omega, e.symm⟩
    rcases Nat.eq_or_lt_of_le h1 with e | h5
    · subst e; omega
    · have := hs j k h5 h2; omega
  intro a b hab hb
  rcases Nat.lt_trichotomy b j with h | h | h
  · rw [insF_lt h, insF_lt (by omega)]; exact hs a b hab (by omega)
  · subst h; rw [insF_eq, insF_lt hab]; exact hj.lo a hab
  · obtain ⟨b', rfl⟩ : ∃ b', b = b' + 1 := ⟨b - 1, by omega⟩
    rw [insF_gt (by omega)]
    rcases Nat.lt_trichotomy a j with h' | h' | h'
    · rw [insF_lt h']
      have := hj.lo a h'
      have := up b' (by omega) (by omega)
      omega
    · subst h'; rw [insF_eq]; exact up b' (by omega) (by omega)
    · obtain ⟨a', rfl⟩ : ∃ a', a = a' + 1 := ⟨a - 1, by omega⟩
      rw [insF_gt (by omega)]
      exact hs a' b' (by omega) (by omega)

theorem st_srt (D : Nat → Int) : ∀ t, Srt (st D t).1 (st D t).2
  | 0 => fun a b _ hb => absurd hb (Nat.not_lt_zero _)
  | t + 1 => by
    have ih := st_srt D t
    unfold st
    simp only
    split
    · exact ih
    · rename_i h
      exact srt_ins ih (lbN_ok _ _ _ ih) h

theorem st_le (D : Nat → Int) : ∀ t, (st D t).1 ≤ t
  | 0 => Nat.le_refl _
  | t + 1 => by
    have ih := st_le D t
    unfold st
    simp only
    split
    · omega
    · simp only; omega

/-- Numbers that are all among D's. -/
theorem st_in (D : Nat → Int) (Q : Int → Prop) : ∀ t, (∀ s, s < t → Q (D s)) → ∀ k, k < (st D t).1 → Q ((st D t).2 k)
  | 0, _, k, hk => absurd hk (Nat.not_lt_zero _)
  | t + 1, h, k, hk => by
    have ih := st_in D Q t (fun s hs => h s (by omega))
    unfold st at hk ⊢
    simp only at hk ⊢
    split at hk
    · rename_i hc
      rw [if_pos hc]; exact ih k hk
    · rename_i hc
      rw [if_neg hc]
      simp only at hk ⊢
      have hl := (lbN_ok _ (D t) _ (st_srt D t)).le
      rcases Nat.lt_trichotomy k (lbN (st D t).1 (st D t).2 (D t)) with e | e | e
      · rw [insF_lt e]; exact ih k (by omega)
      · rw [e, insF_eq]; exact h t (by omega)
      · obtain ⟨k', rfl⟩ : ∃ k', k = k' + 1 := ⟨k - 1, by omega⟩
        rw [insF_gt (by omega)]; exact ih k' (by omega)

/-- What the session keeps: the highest 1000. -/
structure Keep (N : Nat) (A : Nat → Int) (n : Nat) (I : Nat → Int) : Prop where
  len : n = N - (N - 1000)
  el : ∀ k, k < n → I k = A (k + (N - 1000))

theorem keep_lb {N n j : Nat} {A I : Nat → Int} {x : Int} (h : Keep N A n I) (hj : LB N A x j) : LB n I x (j - (N - 1000)) := by
  have hl := h.len
  have hle := hj.le
  refine ⟨by omega, fun k hk => ?_, fun k h1 h2 => ?_⟩
  · rw [h.el k (by omega)]; exact hj.lo _ (by omega)
  · rw [h.el k h2]; exact hj.hi _ (by omega) (by omega)

/-- x is there already, or is too low: nothing changes. -/
theorem keep_skip {N n : Nat} {A I : Nat → Int} {x : Int} {j : Nat} (h : Keep N A n I) (hin : j < N ∧ A j = x) :
    (j - (N - 1000) < n ∧ I (j - (N - 1000)) = x) ∨ (1000 ≤ n ∧ j - (N - 1000) = 0) := by
  have hl := h.len
  rcases Nat.lt_or_ge j (N - 1000) with e | e
  · exact .inr ⟨by omega, by omega⟩
  · refine .inl ⟨by omega, ?_⟩
    rw [h.el _ (by omega), show j - (N - 1000) + (N - 1000) = j from by omega]; exact hin.2

theorem keep_not {N n : Nat} {A I : Nat → Int} {x : Int} {j : Nat} (hs : Srt N A) (h : Keep N A n I) (hj : LB N A x j) (hin : ¬ (j < N ∧ A j = x)) :
    ¬ (j - (N - 1000) < n ∧ I (j - (N - 1000)) = x) := by
  rintro ⟨h1, h2⟩
  have hl := h.len
  rw [h.el _ h1] at h2
  rcases Nat.lt_or_ge j (N - 1000) with e | e
  · rw [show j - (N - 1000) + (N - 1000) = N - 1000 from by omega] at h2
    have h3 := hj.hi j (Nat.le_refl _) (by omega)
    have h4 := hs j (N - 1000) e (by omega)
    omega
  · rw [show j - (N - 1000) + (N - 1000) = j from by omega] at h2
    exact hin ⟨by omega, h2⟩

theorem keep_low {N n : Nat} {A I : Nat → Int} {x : Int} {j : Nat} (h : Keep N A n I) (hn : 1000 ≤ n) (hi : j - (N - 1000) = 0) : Keep (N + 1) (insF A j x) n I := by
  have hl := h.len
  refine ⟨by omega, fun k hk => ?_⟩
  rw [show k + (N + 1 - 1000) = k + (N - 1000) + 1 from by omega, insF_gt (by omega)]
  exact h.el k hk

theorem keep_small {N n : Nat} {A I : Nat → Int} {x : Int} {j : Nat} (h : Keep N A n I) (hj : LB N A x j) (hn : n + 1 ≤ 1000) : Keep (N + 1) (insF A j x) (n + 1) (fun k => insF I (j - (N - 1000)) x (k + 0)) := by
  have hl := h.len
  have hle := hj.le
  have he := h.el
  refine ⟨by omega, fun k hk => ?_⟩
  obtain ⟨c, hc⟩ : ∃ c, c = N - 1000 := ⟨_, rfl⟩
  obtain ⟨c', hc'⟩ : ∃ c, c = N + 1 - 1000 := ⟨_, rfl⟩
  have c0 : c = 0 := by omega
  have c1 : c' = 0 := by omega
  have nN : n = N := by omega
  rw [← hc] at he
  show insF I (j - (N - 1000)) x (k + 0) = insF A j x (k + (N + 1 - 1000))
  rw [← hc, ← hc']
  clear hc hc' hl hn
  subst c0 c1
  show insF I j x k = insF A j x k
  rcases Nat.lt_trichotomy k j with e | e | e
  · rw [insF_lt e, insF_lt e]; exact he k (by omega)
  · rw [e, insF_eq, insF_eq]
  · obtain ⟨k', rfl⟩ : ∃ k', k = k' + 1 := ⟨k - 1, by omega⟩
    rw [insF_gt (by omega), insF_gt (by omega)]; exact he k' (by omega)

theorem keep_big {N n : Nat} {A I : Nat → Int} {x : Int} {j : Nat} (h : Keep N A n I) (hj : LB N A x j) (hn : 1000 < n + 1) : Keep (N + 1) (insF A j x) n (fun k => insF I (j - (N - 1000)) x (k + 1)) := by
  have hl := h.len
  have hle := hj.le
  have he := h.el
  refine ⟨by omega, fun k hk => ?_⟩
  obtain ⟨c, hc⟩ : ∃ c, c = N - 1000 := ⟨_, rfl⟩
  have hc' : N + 1 - 1000 = c + 1 := by omega
  have hN : N = n + c := by omega
  show insF I (j - (N - 1000)) x (k + 1) = insF A j x (k + (N + 1 - 1000))
  rw [hc', ← hc]
  rw [← hc] at he
  clear hc hc' hl hn
  rcases Nat.lt_trichotomy (k + 1) (j - c) with e | e | e
  · rw [insF_lt e, insF_lt (by omega), he _ (by omega)]
    congr 1; omega
  · rw [e, insF_eq, show k + (c + 1) = j from by omega, insF_eq]
  · rw [insF_gt (by omega), show k + (c + 1) = k + c + 1 from by omega, insF_gt (by omega)]; exact he k hk
end Go.Proofs.Qxb6604127a
