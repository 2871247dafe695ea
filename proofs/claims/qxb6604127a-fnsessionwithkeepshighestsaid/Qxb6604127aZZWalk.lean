/-
  THE WALK OF store.ZZSessionWith.
-/
import Derived.Test.Qxb6604127aWithWalk
import Derived.Test.Qxb6604127aCloneWalk
namespace Go.Proofs.Qxb6604127a
open Go.RowKit

theorem make_k (w : World) (t e : TypeId) (size bytes : Nat) (z : Value) (hi : (Try.prog.info? e).map (fun i => (i.zero, i.size, i.bytes)) = some (some z, size, bytes)) (ht : Try.prog.underlying t = some (.slice e)) (n : Nat) (hb : bytes * n ≤ 281474976710656) (hn : n ≤ 1000000) :
    ∃ x1, (Instr.makeSlice t (.int .i64 (n : Int)) (.int .i64 (n : Int))).run Try.prog w = .ok (.slice (some ⟨w.heap.size, 0, none⟩) n n) x1 ∧ x1.there w.heap.size 0 (n * size) ∧ w.heap.size < x1.heap.size ∧ Below w.heap.size w x1 := by
  obtain ⟨i0, hi0, hz0, hz1, hz2⟩ := info_parts hi
  obtain ⟨x1, hmk, own1, gr1⟩ := run_make_full (P := Try.prog) w w.heap.size t e i0 z size ht hi0 hz0 hz1 .i64 .i64 n (by rw [hz2]; omega) (by unfold maxLen; omega) (Nat.le_refl _)
  refine ⟨x1, hmk, ?_⟩
  rcases own1.2 with ⟨h, _⟩ | ⟨g1, cap1, cur1, h, _, hh, _, _, hs, _⟩
  · cases h
  · injection h with h1 h2 h3
    injection h1 with h1
    injection h1 with h1 _ _
    subst h1 h3
    refine ⟨fun j hj => ⟨?_, frozen_at hh _⟩, (Array.getElem?_eq_some_iff.1 hh).1, Below.grown (Below.refl _ w) gr1 (Nat.le_refl _) (fun k hk => by cases hk)⟩
    rw [Lib.cell_of_heap hh, Array.getElem?_eq_getElem (by omega)]
    rfl

theorem Try.info31 : (Try.prog.info? 31).map (fun i => (i.zero, i.size, i.bytes)) = some (some (.int .u64 0), 1, 8) := by kernel_rfl
def zres : Value := .agg #[.int .i64 0, .int .i64 0, .bool false, .bool false, .bool false, .int .i64 0, .bool false, .int .i64 0, .int .i64 0, .int .i64 0, .bool false, .bool false]
theorem Try.info41 : (Try.prog.info? 41).map (fun i => (i.zero, i.size, i.bytes)) = some (some zres, 12, 72) := by kernel_rfl

structure Ids (w : World) (g n : Nat) (I : Nat → Int) : Prop where
  el : ∀ k, k < n → w.cell? ⟨g, k, none⟩ = some (.int .u64 (I k))
  lt : g < w.heap.size

structure Rss (w : World) (g n : Nat) (R : Nat → List Value) : Prop where
  el : ∀ k, k < n → w.rangeAt g (k * 12) (R k)
  lt : g < w.heap.size

def IsRes (V : List Value) : Prop := ∃ (z0 z1 z5 z7 z8 z9 : Int) (b2 b3 b4 b6 b10 b11 : Bool), V = [.int .i64 z0, .int .i64 z1, .bool b2, .bool b3, .bool b4, .int .i64 z5, .bool b6, .int .i64 z7, .int .i64 z8, .int .i64 z9, .bool b10, .bool b11]

theorem IsRes.len {V : List Value} (h : IsRes V) : V.length = 12 := by
  obtain ⟨z0, z1, z5, z7, z8, z9, b2, b3, b4, b6, b10, b11, rfl⟩ := h
  rfl
theorem IsRes.one {V : List Value} (h : IsRes V) : ∀ v ∈ V, v.oneCell' = true := by
  obtain ⟨z0, z1, z5, z7, z8, z9, b2, b3, b4, b6, b10, b11, rfl⟩ := h
  intro v hv
  simp only [List.mem_cons, List.not_mem_nil, or_false] at hv
  rcases hv with rfl | rfl | rfl | rfl | rfl | rfl | rfl | rfl | rfl | rfl | rfl | rfl <;> rfl

def GoodR (n : Nat) (R : Nat → List Value) : Prop := ∀ k, k < n → IsRes (R k)

theorem Ids.below {w w' : World} {B g n : Nat} {I : Nat → Int} (h : Ids w g n I) (hb : Below B w w') (hg : g < B) : Ids w' g n I :=
  ⟨fun k hk => (hb.cell (p := ⟨g, k, none⟩) hg).trans (h.el k hk), Nat.lt_of_lt_of_le h.lt hb.size⟩
theorem Rss.below {w w' : World} {B g n : Nat} {R : Nat → List Value} (h : Rss w g n R) (hb : Below B w w') (hg : g < B) : Rss w' g n R :=
  ⟨fun k hk => range_below (h.el k hk) hb hg, Nat.lt_of_lt_of_le h.lt hb.size⟩

def req (I : Nat → Int) (R : Nat → List Value) (k : Nat) : List Value := .int .u64 (I k) :: R k

theorem req_good {n : Nat} {I : Nat → Int} {R : Nat → List Value} (h : GoodR n R) : Good n (req I R) :=
  ⟨fun k hk => by simp [req, (h k hk).len], fun k hk v hv => by
    rcases List.mem_cons.1 hv with rfl | hv
    · rfl
    · exact (h k hk).one v hv⟩

/-- The first loop: the first k requests are laid. -/
structure S1 (w x : World) (sb n k : Nat) (E : Nat → List Value) : Prop where
  done : ∀ j, j < k → x.rangeAt sb (j * 13) (E j)
  th : x.there sb 0 (n * 13)
  lt : sb < x.heap.size
  bel : Below w.heap.size w x
  hs : w.heap.size ≤ sb

theorem S1.step {w x : World} {sb n k : Nat} {E : Nat → List Value} (h : S1 w x sb n k E) (hG : Good n E) (hk : k < n) : S1 w (x.drew.setCells sb (k * 13) (E k)) sb n (k + 1) E := by
  have hl := hG.len k hk
  have ht : x.drew.there sb (k * 13) (E k).length := there_sub (w := x.drew) (o := 0) (n := n * 13) h.th (by omega) (by rw [hl]; omega)
  refine ⟨fun j hj => ?_, World.there_setCells (w := x.drew) h.th _ _ _, Nat.lt_of_lt_of_le h.lt (below_setCells (B := 0) (Nat.zero_le _) _ _ _ (Below.refl _ x).drew).size, below_setCells h.hs _ _ _ h.bel.drew, h.hs⟩
  by_cases e : j = k
  · subst e; exact World.rangeAt_setCells_same _ _ _ _ ht
  · have hj' : j < k := by omega
    exact World.rangeAt_setCells_apart (w := x.drew) (h.done j hj') _ _ _ (.inr (.inl (by rw [hG.len j (by omega)]; omega)))

def insF {α : Type} (f : Nat → α) (i : Nat) (v : α) (k : Nat) : α := if k < i then f k else if k = i then v else f (k - 1)

theorem ins_req (I : Nat → Int) (R : Nat → List Value) (i : Nat) (x : Int) (V : List Value) (k : Nat) : ins (req I R) i (.int .u64 x :: V) k = req (insF I i x) (insF R i V) k := by
  unfold ins req insF
  split
  · rfl
  · split <;> rfl

theorem goodR_ins {n i : Nat} {R : Nat → List Value} {V : List Value} (h : GoodR n R) (hV : IsRes V) (hi : i ≤ n) : GoodR (n + 1) (insF R i V) := by
  intro k hk
  unfold insF
  split
  · exact h k (by omega)
  · split
    · exact hV
    · exact h _ (by omega)

/-- The second loop: k ids and results are laid. -/
structure S2 (w x : World) (g1 g2 m k : Nat) (I : Nat → Int) (R : Nat → List Value) : Prop where
  d1 : ∀ j, j < k → x.cell? ⟨g1, j, none⟩ = some (.int .u64 (I j))
  d2 : ∀ j, j < k → x.rangeAt g2 (j * 12) (R j)
  t1 : x.there g1 0 m
  t2 : x.there g2 0 (m * 12)
  l1 : g1 < x.heap.size
  l2 : g2 < x.heap.size
  bel : Below w.heap.size w x
  s1 : w.heap.size ≤ g1
  s2 : w.heap.size ≤ g2
  ne : g1 ≠ g2

theorem there_setCell {x : World} {b o n b' o' : Nat} {v : Value} (h : x.there b o n) : (x.setCell ⟨b', o', none⟩ v).there b o n := World.there_setCells h b' o' [v]

theorem S2.some1 {w x : World} {g1 g2 m k n : Nat} {I : Nat → Int} {R : Nat → List Value} (h : S2 w x g1 g2 m n I R) (hk : k < m) : ∃ u, x.cell? ⟨g1, k, none⟩ = some u := by
  have := (h.t1 k hk).1
  rw [Nat.zero_add] at this
  exact Option.isSome_iff_exists.1 this

theorem S2.step {w x : World} {g1 g2 m k : Nat} {I : Nat → Int} {R : Nat → List Value} (h : S2 w x g1 g2 m k I R) (hG : GoodR m R) (hk : k < m) :
    S2 w ((x.setCell ⟨g1, k, none⟩ (.int .u64 (I k))).setCells g2 (k * 12) (R k)) g1 g2 m (k + 1) I R := by
  have hl := (hG k hk).len
  have bl : Below w.heap.size w ((x.setCell ⟨g1, k, none⟩ (.int .u64 (I k))).setCells g2 (k * 12) (R k)) := below_setCells h.s2 _ _ _ (h.bel.setCell (p := ⟨g1, k, none⟩) h.s1 _)
  have sz : x.heap.size ≤ ((x.setCell ⟨g1, k, none⟩ (.int .u64 (I k))).setCells g2 (k * 12) (R k)).heap.size := (below_setCells (B := 0) (Nat.zero_le _) _ _ _ ((Below.refl 0 x).setCell (p := ⟨g1, k, none⟩) (Nat.zero_le _) _)).size
  refine ⟨fun j hj => ?_, fun j hj => ?_, World.there_setCells (there_setCell h.t1) _ _ _, World.there_setCells (there_setCell h.t2) _ _ _, Nat.lt_of_lt_of_le h.l1 sz, Nat.lt_of_lt_of_le h.l2 sz, bl, h.s1, h.s2, h.ne⟩
  · rw [World.cell?_setCells_out _ _ _ _ _ (fun e _ => absurd e h.ne)]
    by_cases e : k = j
    · subst e
      have := (h.t1 k hk).1
      rw [Nat.zero_add] at this
      obtain ⟨u, hu⟩ := Option.isSome_iff_exists.1 this
      exact sc_eq hu
    · rw [sc_ne _ _ _ _ _ _ (Or.inr e)]; exact h.d1 j (by omega)
  · have tt : (x.setCell ⟨g1, k, none⟩ (.int .u64 (I k))).there g2 (k * 12) (R k).length := there_sub (there_setCell h.t2) (by omega) (by rw [hl]; omega)
    by_cases e : j = k
    · subst e; exact World.rangeAt_setCells_same _ _ _ _ tt
    · have h0 : (x.setCell ⟨g1, k, none⟩ (.int .u64 (I k))).rangeAt g2 (j * 12) (R j) := World.rangeAt_setCells_apart (h.d2 j (by omega)) g1 k [.int .u64 (I k)] (.inl (Ne.symm h.ne))
      exact World.rangeAt_setCells_apart h0 _ _ _ (.inr (.inl (by rw [(hG j (by omega)).len]; omega)))

theorem load41d {x : World} {b o : Nat} {R : List Value} (h : x.rangeAt b o R) (hR : R.length = 12) : (Instr.loadAt 41 (.pointer (some ⟨b, o, none⟩))).run Try.prog x.drew = .ok (.agg R.toArray) x.drew := load41 x.drew b o R hR h

theorem Try.size55 : (Try.prog.info? 55).map (·.size) = some 13 := by kernel_rfl

theorem store55d {x : World} {b o n : Nat} {V : List Value} (ht : x.there b 0 n) (hV : V.length = 13) (h1 : ∀ v ∈ V, v.oneCell' = true) (ho : o + 13 ≤ n) : (Instr.storeAt 55 (.pointer (some ⟨b, o, none⟩)) (.agg V.toArray)).run Try.prog x.drew = .ok () (x.drew.setCells b o V) := by
  have := run_storeAt_mid (P := Try.prog) x.drew b o 55 V.toArray (there_sub (w := x.drew) (o := 0) (n := n) ht (by omega) (by simp; omega)) (by simp [hV, Try.size55]) (all_oneCell_toArray h1)
  simpa using this

theorem there12 {x : World} {b n o : Nat} (h : x.there b 0 n) (ho : o + 12 ≤ n) :
    ((∃ u, x.cell? ⟨b, o, none⟩ = some u) ∧ (∃ u, x.cell? ⟨b, o + 1, none⟩ = some u) ∧ (∃ u, x.cell? ⟨b, o + 2, none⟩ = some u) ∧ (∃ u, x.cell? ⟨b, o + 3, none⟩ = some u) ∧ (∃ u, x.cell? ⟨b, o + 4, none⟩ = some u) ∧ (∃ u, x.cell? ⟨b, o + 5, none⟩ = some u) ∧ (∃ u, x.cell? ⟨b, o + 6, none⟩ = some u) ∧ (∃ u, x.cell? ⟨b, o + 7, none⟩ = some u) ∧ (∃ u, x.cell? ⟨b, o + 8, none⟩ = some u) ∧ (∃ u, x.cell? ⟨b, o + 9, none⟩ = some u) ∧ (∃ u, x.cell? ⟨b, o + 10, none⟩ = some u) ∧ (∃ u, x.cell? ⟨b, o + 11, none⟩ = some u)) ∧ x.frozen? ⟨b, o, none⟩ = false ∧ x.frozen? ⟨b, o + 1, none⟩ = false ∧ x.frozen? ⟨b, o + 2, none⟩ = false ∧ x.frozen? ⟨b, o + 3, none⟩ = false ∧ x.frozen? ⟨b, o + 4, none⟩ = false ∧ x.frozen? ⟨b, o + 5, none⟩ = false ∧ x.frozen? ⟨b, o + 6, none⟩ = false ∧ x.frozen? ⟨b, o + 7, none⟩ = false ∧ x.frozen? ⟨b, o + 8, none⟩ = false ∧ x.frozen? ⟨b, o + 9, none⟩ = false ∧ x.frozen? ⟨b, o + 10, none⟩ = false ∧ x.frozen? ⟨b, o + 11, none⟩ = false := by
  have h1 : ∀ t, t < 12 → ∃ u, x.cell? ⟨b, o + t, none⟩ = some u := fun t ht => by
    have := (h (o + t) (by omega)).1
    rw [Nat.zero_add] at this
    exact Option.isSome_iff_exists.1 this
  have h2 : ∀ t, t < 12 → x.frozen? ⟨b, o + t, none⟩ = false := fun t ht => by
    have := (h (o + t) (by omega)).2
    rwa [Nat.zero_add] at this
  exact ⟨⟨h1 0 (by omega), h1 1 (by omega), h1 2 (by omega), h1 3 (by omega), h1 4 (by omega), h1 5 (by omega), h1 6 (by omega), h1 7 (by omega), h1 8 (by omega), h1 9 (by omega), h1 10 (by omega), h1 11 (by omega)⟩, h2 0 (by omega), h2 1 (by omega), h2 2 (by omega), h2 3 (by omega), h2 4 (by omega), h2 5 (by omega), h2 6 (by omega), h2 7 (by omega), h2 8 (by omega), h2 9 (by omega), h2 10 (by omega), h2 11 (by omega)⟩

theorem range13 {x : World} {b o : Nat} {c a0 a1 a2 a3 a4 a5 a6 a7 a8 a9 a10 a11 : Value} (h : x.rangeAt b o [c, a0, a1, a2, a3, a4, a5, a6, a7, a8, a9, a10, a11]) :
    x.cell? ⟨b, o, none⟩ = some c ∧ x.cell? ⟨b, o + 1, none⟩ = some a0 ∧ x.cell? ⟨b, o + 2, none⟩ = some a1 ∧ x.cell? ⟨b, o + 3, none⟩ = some a2 ∧ x.cell? ⟨b, o + 4, none⟩ = some a3 ∧ x.cell? ⟨b, o + 5, none⟩ = some a4 ∧ x.cell? ⟨b, o + 6, none⟩ = some a5 ∧ x.cell? ⟨b, o + 7, none⟩ = some a6 ∧ x.cell? ⟨b, o + 8, none⟩ = some a7 ∧ x.cell? ⟨b, o + 9, none⟩ = some a8 ∧ x.cell? ⟨b, o + 10, none⟩ = some a9 ∧ x.cell? ⟨b, o + 11, none⟩ = some a10 ∧ x.cell? ⟨b, o + 12, none⟩ = some a11 :=
  ⟨h 0 _ rfl, h 1 _ rfl, h 2 _ rfl, h 3 _ rfl, h 4 _ rfl, h 5 _ rfl, h 6 _ rfl, h 7 _ rfl, h 8 _ rfl, h 9 _ rfl, h 10 _ rfl, h 11 _ rfl, h 12 _ rfl⟩

theorem range12 {x : World} {b o : Nat} {a0 a1 a2 a3 a4 a5 a6 a7 a8 a9 a10 a11 : Value} (h : x.rangeAt b o [a0, a1, a2, a3, a4, a5, a6, a7, a8, a9, a10, a11]) :
    x.cell? ⟨b, o, none⟩ = some a0 ∧ x.cell? ⟨b, o + 1, none⟩ = some a1 ∧ x.cell? ⟨b, o + 2, none⟩ = some a2 ∧ x.cell? ⟨b, o + 3, none⟩ = some a3 ∧ x.cell? ⟨b, o + 4, none⟩ = some a4 ∧ x.cell? ⟨b, o + 5, none⟩ = some a5 ∧ x.cell? ⟨b, o + 6, none⟩ = some a6 ∧ x.cell? ⟨b, o + 7, none⟩ = some a7 ∧ x.cell? ⟨b, o + 8, none⟩ = some a8 ∧ x.cell? ⟨b, o + 9, none⟩ = some a9 ∧ x.cell? ⟨b, o + 10, none⟩ = some a10 ∧ x.cell? ⟨b, o + 11, none⟩ = some a11 :=
  ⟨h 0 _ rfl, h 1 _ rfl, h 2 _ rfl, h 3 _ rfl, h 4 _ rfl, h 5 _ rfl, h 6 _ rfl, h 7 _ rfl, h 8 _ rfl, h 9 _ rfl, h 10 _ rfl, h 11 _ rfl⟩

theorem there13 {x : World} {b n o : Nat} (h : x.there b 0 n) (ho : o + 13 ≤ n) :
    ((∃ u, x.cell? ⟨b, o, none⟩ = some u) ∧ (∃ u, x.cell? ⟨b, o + 1, none⟩ = some u) ∧ (∃ u, x.cell? ⟨b, o + 2, none⟩ = some u) ∧ (∃ u, x.cell? ⟨b, o + 3, none⟩ = some u) ∧ (∃ u, x.cell? ⟨b, o + 4, none⟩ = some u) ∧ (∃ u, x.cell? ⟨b, o + 5, none⟩ = some u) ∧ (∃ u, x.cell? ⟨b, o + 6, none⟩ = some u) ∧ (∃ u, x.cell? ⟨b, o + 7, none⟩ = some u) ∧ (∃ u, x.cell? ⟨b, o + 8, none⟩ = some u) ∧ (∃ u, x.cell? ⟨b, o + 9, none⟩ = some u) ∧ (∃ u, x.cell? ⟨b, o + 10, none⟩ = some u) ∧ (∃ u, x.cell? ⟨b, o + 11, none⟩ = some u) ∧ (∃ u, x.cell? ⟨b, o + 12, none⟩ = some u)) ∧ x.frozen? ⟨b, o, none⟩ = false ∧ x.frozen? ⟨b, o + 1, none⟩ = false ∧ x.frozen? ⟨b, o + 2, none⟩ = false ∧ x.frozen? ⟨b, o + 3, none⟩ = false ∧ x.frozen? ⟨b, o + 4, none⟩ = false ∧ x.frozen? ⟨b, o + 5, none⟩ = false ∧ x.frozen? ⟨b, o + 6, none⟩ = false ∧ x.frozen? ⟨b, o + 7, none⟩ = false ∧ x.frozen? ⟨b, o + 8, none⟩ = false ∧ x.frozen? ⟨b, o + 9, none⟩ = false ∧ x.frozen? ⟨b, o + 10, none⟩ = false ∧ x.frozen? ⟨b, o + 11, none⟩ = false ∧ x.frozen? ⟨b, o + 12, none⟩ = false := by
  have h1 : ∀ t, t < 13 → ∃ u, x.cell? ⟨b, o + t, none⟩ = some u := fun t ht => by
    have := (h (o + t) (by omega)).1
    rw [Nat.zero_add] at this
    exact Option.isSome_iff_exists.1 this
  have h2 : ∀ t, t < 13 → x.frozen? ⟨b, o + t, none⟩ = false := fun t ht => by
    have := (h (o + t) (by omega)).2
    rwa [Nat.zero_add] at this
  exact ⟨⟨h1 0 (by omega), h1 1 (by omega), h1 2 (by omega), h1 3 (by omega), h1 4 (by omega), h1 5 (by omega), h1 6 (by omega), h1 7 (by omega), h1 8 (by omega), h1 9 (by omega), h1 10 (by omega), h1 11 (by omega), h1 12 (by omega)⟩, h2 0 (by omega), h2 1 (by omega), h2 2 (by omega), h2 3 (by omega), h2 4 (by omega), h2 5 (by omega), h2 6 (by omega), h2 7 (by omega), h2 8 (by omega), h2 9 (by omega), h2 10 (by omega), h2 11 (by omega), h2 12 (by omega)⟩

set_option maxHeartbeats 4000000 in
set_option maxRecDepth 100000 in
theorem zz_walk (ib rb n i : Nat) (x : Int) (I : Nat → Int) (R : Nat → List Value) (V : List Value) (w : World) (hI : Ids w ib n I) (hR : Rss w rb n R) (hGR : GoodR n R) (hV : IsRes V) (hn : n ≤ 10000) (hin : i ≤ n) (d m : Nat) (hd : (n + 1 ≤ 1000 ∧ d = 0) ∨ (1000 < n + 1 ∧ d = 1)) (hm : m + d = n + 1) :
    Calls Try.prog 16 #[.slice (some ⟨ib, 0, none⟩) n n, .slice (some ⟨rb, 0, none⟩) n n, .int .i64 i, .int .u64 x, .agg V.toArray] w fun e w' =>
      ∃ g1 g2, e = .returned (.tuple #[.slice (some ⟨g1, 0, none⟩) m m, .slice (some ⟨g2, 0, none⟩) m m]) ∧ Ids w' g1 m (fun k => insF I i x (k + d)) ∧ Rss w' g2 m (fun k => insF R i V (k + d)) ∧ w.heap.size ≤ g1 ∧ w.heap.size ≤ g2 ∧ Below w.heap.size w w' := by
  have hVl := hV.len
  have hV1 := hV.one
  obtain ⟨r0, r1, r2, r3, r4, r5, r6, r7, r8, r9, r10, r11, rfl⟩ := list12 hVl
  have hB1 : Below w.heap.size w (w.alloc (.cells #[r0, r1, r2, r3, r4, r5, r6, r7, r8, r9, r10, r11] 41)) := (Below.refl _ w).alloc (Nat.le_refl _) _
  have hsz : (w.alloc (.cells #[r0, r1, r2, r3, r4, r5, r6, r7, r8, r9, r10, r11] 41)).heap.size = w.heap.size + 1 := by simp
  obtain ⟨x1, hmk, hth, hlt, hbl⟩ := make_k (w.alloc (.cells #[r0, r1, r2, r3, r4, r5, r6, r7, r8, r9, r10, r11] 41)) 53 55 13 80 zreq Try.info55 Try.underlying53 n (by omega) (by omega)
  rw [hsz] at hmk hth hlt hbl
  have hbox := range_alloc_new w [r0, r1, r2, r3, r4, r5, r6, r7, r8, r9, r10, r11] 41
  obtain ⟨w1, hw1⟩ : ∃ w1, w1 = w.alloc (.cells #[r0, r1, r2, r3, r4, r5, r6, r7, r8, r9, r10, r11] 41) := ⟨_, rfl⟩
  rw [← hw1] at hB1 hsz hbl
  rw [show w.alloc (.cells [r0, r1, r2, r3, r4, r5, r6, r7, r8, r9, r10, r11].toArray 41) = w1 from hw1.symm] at hbox
  clear hw1
  have C0 : Hid (S1 w1 x1 (w.heap.size + 1) n 0 (req I R)) := ⟨fun j hj => by omega, hth, hlt, by rw [hsz]; exact hbl, by omega⟩
  have HI : Hid (Ids w1 ib n I) := hI.below hB1 hI.lt
  have HR : Hid (Rss w1 rb n R) := hR.below hB1 hR.lt
  have hilt : ib < w1.heap.size := HI.out.lt
  have hrlt : rb < w1.heap.size := HR.out.lt
  have HGR := hid hGR
  have HGE : Hid (Good n (req I R)) := req_good hGR
  have Hbox := hid hbox
  have HB1 := hid hB1
  have Hsz := hid hsz
  have HV := hid hV
  have HV1 := hid hV1
  clear hV hV1 hI hR hGR hth hlt hbl hB1 hsz hbox hVl
  go_enter Try.func16, Try.ntmps16
  go_wp2_with fail
  go_loopw [13] (fun k x => ∃ j : Nat, j ≤ n ∧ k = .int .i64 j ∧ Hid (S1 w1 x (w.heap.size + 1) n j (req I R))) (fun k _ => n - (intOf k).toNat)
  case atStart => exact ⟨0, Nat.zero_le _, rfl, C0⟩
  case round =>
    obtain ⟨j, hj, rfl, H⟩ := hrel
    clear C0 hmk
    by_cases hlt : j < n
    · have e1 := (H.out.bel.cell (p := ⟨ib, j, none⟩) hilt).trans (HI.out.el j hlt)
      have e2 := range_below (HR.out.el j hlt) H.out.bel hrlt
      have HN := H.out.step HGE.out hlt
      obtain ⟨z0, z1, z5, z7, z8, z9, b2, b3, b4, b6, b10, b11, hRj⟩ := HGR.out j hlt
      have hq : req I R j = [.int .u64 (I j), .int .i64 z0, .int .i64 z1, .bool b2, .bool b3, .bool b4, .int .i64 z5, .bool b6, .int .i64 z7, .int .i64 z8, .int .i64 z9, .bool b10, .bool b11] := by unfold req; rw [hRj]
      rw [hRj] at e2
      rw [hq, drew_setCells] at HN
      simp only [World.setCells, Nat.add_assoc, Nat.reduceAdd] at HN
      obtain ⟨c0, c1, c2, c3, c4, c5, c6, c7, c8, c9, c10, c11⟩ := range12 e2
      obtain ⟨⟨⟨u0, d0⟩, ⟨u1, d1⟩, ⟨u2, d2⟩, ⟨u3, d3⟩, ⟨u4, d4⟩, ⟨u5, d5⟩, ⟨u6, d6⟩, ⟨u7, d7⟩, ⟨u8, d8⟩, ⟨u9, d9⟩, ⟨u10, d10⟩, ⟨u11, d11⟩, ⟨u12, d12⟩⟩, f0, f1, f2, f3, f4, f5, f6, f7, f8, f9, f10, f11, f12⟩ := there13 (o := j * 13) H.out.th (by omega)
      have HN' := hid HN
      have b0 : (0 : Int) ≤ (j : Int) := by omega
      have b1 : (j : Int) < (n : Int) := by omega
      clear e2 HN hRj hq H
      go_wp2_with fail
      go_region
      go_wp2
      go_roundw
      case rel => exact ⟨j + 1, by omega, by go_num, HN'⟩
      case measure => simp [intOf]; omega
    · have hjl : j = n := by omega
      subst hjl
      have hRow : Row wr (w.heap.size + 1) j j (req I R) := ⟨H.out.done, H.out.th, H.out.lt, Nat.le_refl _⟩
      have hBL : Hid (Below w.heap.size w wr) := HB1.out.trans (H.out.bel.mono (by rw [Hsz.out]; omega))
      have hbx := range_below Hbox.out H.out.bel (by rw [Hsz.out]; omega)
      obtain ⟨c0, c1, c2, c3, c4, c5, c6, c7, c8, c9, c10, c11⟩ := range12 hbx
      simp only [Nat.zero_add] at c0 c1 c2 c3 c4 c5 c6 c7 c8 c9 c10 c11
      have hH := with_walk (w.heap.size + 1) j i x (req I R) [r0, r1, r2, r3, r4, r5, r6, r7, r8, r9, r10, r11] wr hRow HGE.out rfl HV1.out hn hin d hd
      clear H hRow hbx hj hlt
      go_wp2_with fail
      refine hH.mono ?_
      rintro e w2 ⟨g, cap, rfl, hRow2, hg, hB2⟩
      clear hH
      have hm2 : j + 1 - d = m := by omega
      rw [hm2] at hRow2 ⊢
      obtain ⟨I2, hI2⟩ : ∃ I2, I2 = fun k => insF I i x (k + d) := ⟨_, rfl⟩
      obtain ⟨R2, hR2⟩ : ∃ R2, R2 = fun k => insF R i [r0, r1, r2, r3, r4, r5, r6, r7, r8, r9, r10, r11] (k + d) := ⟨_, rfl⟩
      have hGm : Hid (GoodR m R2) := fun k hk => by rw [hR2]; exact goodR_ins HGR.out HV.out hin (k + d) (by omega)
      have hRow3 : Hid (∀ k, k < m → w2.rangeAt g (k * 13) (req I2 R2 k)) := fun k hk => by
        have := hRow2.el k hk
        rw [ins_req] at this
        rw [hI2, hR2]; exact this
      obtain ⟨x3, hmk3, th3, lt3, bl3⟩ := make_k w2 36 31 1 8 (.int .u64 0) Try.info31 Try.underlying36 m (by omega) (by omega)
      obtain ⟨x4, hmk4, th4, lt4, bl4⟩ := make_k x3 37 41 12 72 zres Try.info41 Try.underlying37 m (by omega) (by omega)
      have hglt := hRow2.lt
      have D0 : Hid (S2 w2 x4 w2.heap.size x3.heap.size m 0 I2 R2) := ⟨fun j hj => by omega, fun j hj => by omega, by rw [Nat.mul_one] at th3; exact there_below th3 bl4 lt3, th4, Nat.lt_of_lt_of_le lt3 bl4.size, lt4, bl3.trans (bl4.mono (Nat.le_of_lt lt3)), Nat.le_refl _, Nat.le_of_lt lt3, by omega⟩
      have hB4 : Hid (Below w.heap.size w w2) := hBL.out.trans (hB2.mono hBL.out.size)
      have hsz3 : Hid (w.heap.size ≤ w2.heap.size) := hB4.out.size
      have HI2 := hid hI2
      have HR2 := hid hR2
      have hne1 : g ≠ w2.heap.size := by omega
      have hne2 : g ≠ x3.heap.size := by omega
      have hne3 : w2.heap.size ≠ x3.heap.size := by omega
      obtain ⟨g1, hg1⟩ : ∃ g1, g1 = w2.heap.size := ⟨_, rfl⟩
      obtain ⟨g2, hg2⟩ : ∃ g2, g2 = x3.heap.size := ⟨_, rfl⟩
      have hmn : m ≤ 10001 := by omega
      rw [← hg1] at hmk3 D0 hne1 hne3
      rw [← hg2] at hmk4 D0 hne2 hne3
      have Hg1 := hid hg1
      clear hI2 hR2 hRow2 th3 lt3 bl3 th4 lt4 bl4 hB2 hBL hg hg1 hg2 c0 c1 c2 c3 c4 c5 c6 c7 c8 c9 c10 c11 hm2 hm hin hd HGE HGR HI HR HV HV1 Hbox HB1 Hsz hilt hrlt hn
      go_wp2_with fail
      go_loopw [16] (fun k x => ∃ j : Nat, j ≤ m ∧ k = .int .i64 j ∧ Hid (S2 w2 x g1 g2 m j I2 R2)) (fun k _ => m - (intOf k).toNat)
      case atStart => exact ⟨0, Nat.zero_le _, rfl, D0⟩
      case round =>
        obtain ⟨k, hk, rfl, H⟩ := hrel
        clear D0 hmk3 hmk4
        by_cases hlt : k < m
        · have e2 := range_below (hRow3.out k hlt) H.out.bel hglt
          have HN := H.out.step hGm.out hlt
          obtain ⟨z0, z1, z5, z7, z8, z9, b2, b3, b4, b6, b10, b11, hRk⟩ := hGm.out k hlt
          have hq : req I2 R2 k = [.int .u64 (I2 k), .int .i64 z0, .int .i64 z1, .bool b2, .bool b3, .bool b4, .int .i64 z5, .bool b6, .int .i64 z7, .int .i64 z8, .int .i64 z9, .bool b10, .bool b11] := by unfold req; rw [hRk]
          rw [hq] at e2
          rw [hRk] at HN
          simp only [World.setCells, Nat.add_assoc, Nat.reduceAdd] at HN
          obtain ⟨c, c0, c1, c2, c3, c4, c5, c6, c7, c8, c9, c10, c11⟩ := range13 e2
          obtain ⟨⟨⟨u0, d0⟩, ⟨u1, d1⟩, ⟨u2, d2⟩, ⟨u3, d3⟩, ⟨u4, d4⟩, ⟨u5, d5⟩, ⟨u6, d6⟩, ⟨u7, d7⟩, ⟨u8, d8⟩, ⟨u9, d9⟩, ⟨u10, d10⟩, ⟨u11, d11⟩⟩, f0, f1, f2, f3, f4, f5, f6, f7, f8, f9, f10, f11⟩ := there12 (o := k * 12) H.out.t2 (by omega)
          obtain ⟨u, hu⟩ := H.out.some1 hlt
          have hf := (H.out.t1 k hlt).2
          rw [Nat.zero_add] at hf
          have HN' := hid HN
          have b0 : (0 : Int) ≤ (k : Int) := by omega
          have b1 : (k : Int) < (m : Int) := by omega
          clear e2 HN hRk hq H
          go_wp2_with fail
          go_roundw
          case rel => exact ⟨k + 1, by omega, by go_num, HN'⟩
          case measure => simp [intOf]; omega
        · have hjl : k = m := by omega
          subst hjl
          clear hlt hk
          have fin : Hid (Ids wr g1 k (fun t => insF I i x (t + d)) ∧ Rss wr g2 k (fun t => insF R i [r0, r1, r2, r3, r4, r5, r6, r7, r8, r9, r10, r11] (t + d)) ∧ w.heap.size ≤ g1 ∧ w.heap.size ≤ g2 ∧ Below w.heap.size w wr) := by
            refine ⟨⟨?_, H.out.l1⟩, ⟨?_, H.out.l2⟩, ?_, ?_, hB4.out.trans (H.out.bel.mono hsz3.out)⟩
            · intro t ht
              have := H.out.d1 t ht
              rw [HI2.out] at this; exact this
            · intro t ht
              have := H.out.d2 t ht
              rw [HR2.out] at this; exact this
            · exact Nat.le_trans hsz3.out H.out.s1
            · exact Nat.le_trans hsz3.out H.out.s2
          clear H
          go_wp2_with fail
          go_ret2
          exact ⟨g1, g2, rfl, fin.out⟩
end Go.Proofs.Qxb6604127a
