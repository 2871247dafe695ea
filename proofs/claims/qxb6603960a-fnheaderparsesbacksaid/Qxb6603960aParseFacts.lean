/-
  WHAT THE PARSING LAW WANTS, outside its walk.
-/
import Derived.Test.Qxb6603960aTokWalks
namespace Go.Proofs.Qxb6603960a
open Go.RowKit

/-- Parameter k is there. -/
def pres (V : Nat → ByteArray) (k : Nat) : Bool := !(decide ((V k).data.toList = []) && decide (5 ≤ k))

theorem pres_iff (V : Nat → ByteArray) (k : Nat) : pres V k = true ↔ ¬ ((V k).data.toList = [] ∧ 5 ≤ k) := by
  unfold pres
  by_cases h1 : (V k).data.toList = [] <;> by_cases h2 : 5 ≤ k <;> simp [h1, h2]

theorem pres_no (V : Nat → ByteArray) (k : Nat) : pres V k = false ↔ ((V k).data.toList = [] ∧ 5 ≤ k) := by
  unfold pres
  by_cases h1 : (V k).data.toList = [] <;> by_cases h2 : 5 ≤ k <;> simp [h1, h2]

theorem next_from (V : Nat → ByteArray) : ∀ (f k : Nat), k + f = 9 → ∃ k', k ≤ k' ∧ k' ≤ 9 ∧ (∀ j, k ≤ j → j < k' → pres V j = false) ∧ (k' = 9 ∨ pres V k' = true) := by
  intro f
  induction f with
  | zero => intro k h; exact ⟨9, by omega, by omega, fun j h1 h2 => by omega, Or.inl rfl⟩
  | succ f ih =>
    intro k h
    cases hp : pres V k with
    | true => exact ⟨k, by omega, by omega, fun j h1 h2 => by omega, Or.inr hp⟩
    | false =>
      obtain ⟨k', h1, h2, h3, h4⟩ := ih (k + 1) (by omega)
      refine ⟨k', by omega, h2, fun j hj hj' => ?_, h4⟩
      rcases Nat.eq_or_lt_of_le hj with rfl | hlt
      · exact hp
      · exact h3 j hlt hj'

theorem pos_skips (V : Nat → ByteArray) (k k' : Nat) (hkk : k ≤ k') (h : ∀ j, k ≤ j → j < k' → pres V j = false) : pos V k' = pos V k := by
  obtain ⟨d, rfl⟩ : ∃ d, k' = k + d := ⟨k' - k, by omega⟩
  clear hkk
  induction d with
  | zero => rfl
  | succ d ih =>
    rw [← Nat.add_assoc, pos_skip V (k + d) ((pres_no V (k + d)).1 (h (k + d) (by omega) (by omega))), ih (fun j h1 h2 => h j h1 (by omega))]

def gotv (V : Nat → ByteArray) (k j : Nat) : ByteArray := if j < k ∧ pres V j = true then V j else ⟨#[]⟩
def seenv (V : Nat → ByteArray) (k j : Nat) : Bool := decide (j < k) && pres V j

structure PS (w0 wr : World) (V : Nat → ByteArray) (tb gb sb k : Nat) : Prop where
  bel : Below w0.heap.size w0 wr
  lo : w0.heap.size ≤ gb ∧ w0.heap.size ≤ sb
  hi : tb < wr.heap.size ∧ gb < wr.heap.size ∧ sb < wr.heap.size
  ne : gb ≠ tb ∧ sb ≠ tb ∧ gb ≠ sb
  want : ∀ j, j < 9 → wr.cell? ⟨tb, j, none⟩ = some (.string (V j))
  got : ∀ j, j < 9 → wr.cell? ⟨gb, j, none⟩ = some (.string (gotv V k j))
  seen : ∀ j, j < 9 → wr.cell? ⟨sb, j, none⟩ = some (.bool (seenv V k j))
  fg : ∀ j, wr.frozen? ⟨gb, j, none⟩ = false
  fs : ∀ j, wr.frozen? ⟨sb, j, none⟩ = false

theorem PS.below {w0 wr wx : World} {V : Nat → ByteArray} {tb gb sb k : Nat} (h : PS w0 wr V tb gb sb k) (b : Below wr.heap.size wr wx) : PS w0 wx V tb gb sb k :=
  ⟨h.bel.trans (b.mono h.bel.size), h.lo, ⟨by have := h.hi.1; have := b.size; omega, by have := h.hi.2.1; have := b.size; omega, by have := h.hi.2.2; have := b.size; omega⟩, h.ne,
    fun j hj => (b.cell (p := ⟨tb, j, none⟩) h.hi.1).trans (h.want j hj), fun j hj => (b.cell (p := ⟨gb, j, none⟩) h.hi.2.1).trans (h.got j hj), fun j hj => (b.cell (p := ⟨sb, j, none⟩) h.hi.2.2).trans (h.seen j hj),
    fun j => (b.frozen (p := ⟨gb, j, none⟩) h.hi.2.1).trans (h.fg j), fun j => (b.frozen (p := ⟨sb, j, none⟩) h.hi.2.2).trans (h.fs j)⟩

theorem gotv_same (V : Nat → ByteArray) (k k' j : Nat) (hkk : k ≤ k') (h : ∀ i, k ≤ i → i < k' → pres V i = false) : gotv V k' j = gotv V k j := by
  unfold gotv
  by_cases h1 : j < k
  · simp [h1, show j < k' from by omega]
  · by_cases h2 : j < k'
    · simp [h1, h2, h j (by omega) h2]
    · simp [h1, h2]

theorem seenv_same (V : Nat → ByteArray) (k k' j : Nat) (hkk : k ≤ k') (h : ∀ i, k ≤ i → i < k' → pres V i = false) : seenv V k' j = seenv V k j := by
  unfold seenv
  by_cases h1 : j < k
  · simp [h1, show j < k' from by omega]
  · by_cases h2 : j < k'
    · simp [h1, h2, h j (by omega) h2]
    · simp [h1, h2]

theorem PS.skip {w0 wr : World} {V : Nat → ByteArray} {tb gb sb k k' : Nat} (p : PS w0 wr V tb gb sb k) (hkk : k ≤ k') (h : ∀ i, k ≤ i → i < k' → pres V i = false) : PS w0 wr V tb gb sb k' :=
  ⟨p.bel, p.lo, p.hi, p.ne, p.want, fun j hj => by rw [gotv_same V k k' j hkk h]; exact p.got j hj, fun j hj => by rw [seenv_same V k k' j hkk h]; exact p.seen j hj, p.fg, p.fs⟩

theorem sc_ne (w : World) (b1 o1 b2 o2 : Nat) (v : Value) (h : b1 ≠ b2 ∨ o1 ≠ o2) : (w.setCell ⟨b1, o1, none⟩ v).cell? ⟨b2, o2, none⟩ = w.cell? ⟨b2, o2, none⟩ := by
  apply World.cell?_setCell_other
  intro e
  injection e with e1 e2
  rcases h with h | h
  · exact h e1
  · exact h e2

theorem sc_eq {w : World} {a : Addr} {v u : Value} (h : w.cell? a = some u) : (w.setCell a v).cell? a = some v := by
  apply World.cell?_setCell_same
  exact h

theorem PS.store {w0 wr : World} {V : Nat → ByteArray} {tb gb sb k : Nat} (p : PS w0 wr V tb gb sb k) (hp : pres V k = true) :
    PS w0 ((wr.setCell ⟨sb, k, none⟩ (.bool true)).setCell ⟨gb, k, none⟩ (.string (V k))) V tb gb sb (k + 1) := by
  refine ⟨(p.bel.setCell (p := ⟨sb, k, none⟩) p.lo.2 _).setCell (p := ⟨gb, k, none⟩) p.lo.1 _, p.lo, by simpa [World.setCell] using p.hi, p.ne, ?_, ?_, ?_, ?_, ?_⟩
  · intro j hj
    rw [sc_ne _ gb k tb j _ (Or.inl p.ne.1), sc_ne _ sb k tb j _ (Or.inl p.ne.2.1)]
    exact p.want j hj
  · intro j hj
    by_cases e : k = j
    · subst e
      have c : (wr.setCell ⟨sb, k, none⟩ (.bool true)).cell? ⟨gb, k, none⟩ = some (.string (gotv V k k)) := by
        rw [sc_ne _ sb k gb k _ (Or.inl p.ne.2.2.symm)]; exact p.got k hj
      rw [sc_eq c]
      simp [gotv, hp]
    · rw [sc_ne _ gb k gb j _ (Or.inr e), sc_ne _ sb k gb j _ (Or.inl p.ne.2.2.symm), p.got j hj]
      have : (j < k + 1) ↔ j < k := by omega
      simp [gotv, this]
  · intro j hj
    rw [sc_ne _ gb k sb j _ (Or.inl p.ne.2.2)]
    by_cases e : k = j
    · subst e
      rw [sc_eq (p.seen k hj)]
      simp [seenv, hp]
    · rw [sc_ne _ sb k sb j _ (Or.inr e), p.seen j hj]
      have : (j < k + 1) ↔ j < k := by omega
      simp [seenv, this]
  · intro j; simp [p.fg j]
  · intro j; simp [p.fs j]

theorem name_tok (k : Nat) (hk : k < 9) : tok (Pl.name k) = true := by
  rcases (by omega : k = 0 ∨ k = 1 ∨ k = 2 ∨ k = 3 ∨ k = 4 ∨ k = 5 ∨ k = 6 ∨ k = 7 ∨ k = 8) with rfl | rfl | rfl | rfl | rfl | rfl | rfl | rfl | rfl <;> decide

/-- A run of token bytes in the text. -/
theorem tok_run {O : ByteArray} {p : Nat} {l post : List UInt8} (e : O.data.toList.drop p = l ++ post) (hp : p ≤ O.size) (ht : tok l = true) : ∀ j, p ≤ j → j < p + l.length → ∀ hj : j < O.size, tch O[j].toNat = true := by
  intro j h1 h2 hj
  obtain ⟨i, rfl⟩ : ∃ i, j = p + i := ⟨j - p, by omega⟩
  have := (drop_pre e hp).2 i (by omega) hj
  rw [this]
  have h3 := List.all_eq_true.1 ht
  exact h3 _ (List.getElem_mem _)

theorem byte_at {O : ByteArray} {p : Nat} {c : UInt8} {post : List UInt8} (e : O.data.toList.drop p = c :: post) : p < O.size ∧ ∀ hj : p < O.size, O[p].toNat = c.toNat :=
  ⟨(drop_head e).1, (drop_head e).2.1⟩

theorem slice_at {O : ByteArray} {p q : Nat} {l post : List UInt8} (t : ByteArray) (e : O.data.toList.drop p = l ++ post) (hq : p + l.length = q) (ht : t.data.toList = l) : O.extract p q = t := by
  rw [Lib.extract_eq, e, ← hq, Nat.add_sub_cancel_left, List.take_left, ← ht, Lib.mk_data]

/-- Where the reader of pairs stands when parameter k is next. -/
def start (V : Nat → ByteArray) (k : Nat) : Nat := pos V k + (if k = 9 then 0 else (Pl.pre k).length)

theorem start_end {V : Nat → ByteArray} {O : ByteArray} (hO : O.data.toList = Pl.header (bytesOf V)) : start V 9 = O.size := by
  simp [start, pos_end hO]

theorem start_zero (V : Nat → ByteArray) : start V 0 = 7 := by simp [start, pos, Pl.pre, Pl.body, Pl.digest]

/-- The places on the way through a parameter that is there, as the reader of pairs meets them. -/
theorem parse_steps {V : Nat → ByteArray} {O : ByteArray} (hO : O.data.toList = Pl.header (bytesOf V)) (k : Nat) (hk : k < 9) (hp : pres V k = true) :
    ∃ p1 i1 p2 p3 post2 post3, start V k = p1 ∧ O.data.toList.drop p1 = Pl.name k ++ 61 :: post2 ∧ p1 ≤ O.size ∧ p1 + (Pl.name k).length = i1 ∧
      O.data.toList.drop i1 = 61 :: post2 ∧ i1 + 1 = p2 ∧ O.data.toList.drop p2 = Pl.val k (V k).data.toList ++ post3 ∧ p2 ≤ O.size ∧
      p2 + (Pl.val k (V k).data.toList).length = p3 ∧ p3 = pos V (k + 1) ∧ O.data.toList.drop p3 = post3 ∧ p3 ≤ O.size := by
  obtain ⟨p1, p2, post1, post2, post3, P0, Q0, l0, P1, Q1, l1, P2, Q2, l2⟩ := pos_steps hO k hk ((pres_iff V k).1 hp)
  have en : (nameB k ++ (⟨#[61]⟩ : ByteArray)).data.toList = Pl.name k ++ [61] := by simp [ByteArray.data_append, nameB]
  have P1' : O.data.toList.drop p1 = Pl.name k ++ 61 :: post2 := by rw [P1, en]; simp
  obtain ⟨d1, m1⟩ := drop_next P1' l1
  have hz : p1 + (Pl.name k).length + 1 = p2 := by rw [← Q1, nm61, Lib.size_eq]; rfl
  obtain ⟨d3, m3⟩ := drop_next P2 l2
  refine ⟨p1, _, p2, _, post2, post3, ?_, P1', l1, rfl, d1, hz, P2, l2, rfl, Q2, d3, m3⟩
  rw [← Q0]; simp only [start]; rw [if_neg (by omega)]

/-- What stands behind a parameter. -/
theorem behind {V : Nat → ByteArray} {O : ByteArray} (hO : O.data.toList = Pl.header (bytesOf V)) (k k' : Nat) (hkk : k < k') (hk9 : k' ≤ 9) (hs : ∀ j, k + 1 ≤ j → j < k' → pres V j = false) (hl : k' = 9 ∨ pres V k' = true) :
    (k' = 9 ∧ pos V (k + 1) = O.size) ∨ (k' < 9 ∧ pres V k' = true ∧ ∃ post4, O.data.toList.drop (pos V (k + 1)) = [44, 32] ++ post4 ∧ pos V (k + 1) + 2 = start V k' ∧ start V k' < O.size) := by
  have hps := pos_skips V (k + 1) k' hkk hs
  by_cases h9 : k' = 9
  · left; subst h9; exact ⟨rfl, by rw [← hps]; exact pos_end hO⟩
  · right
    have hp : pres V k' = true := hl.resolve_left h9
    obtain ⟨p1, p2, post1, post2, post3, P0, Q0, l0, P1, Q1, l1, P2, Q2, l2⟩ := pos_steps hO k' (by omega) ((pres_iff V k').1 hp)
    have e : Pl.pre k' = [44, 32] := by simp [Pl.pre]; omega
    refine ⟨by omega, hp, post1, by rw [← hps, P0, e], ?_, ?_⟩
    · simp only [start]; rw [if_neg h9, e, hps]; rfl
    · simp only [start]; rw [if_neg h9, Q0]
      have := nm61 (nameB k')
      omega
end Go.Proofs.Qxb6603960a
