/-
  THE WALK OF slices.Insert, one element into a full row.
-/
import Derived.Test.Qxb6604127aProg
import Derived.Test.Qxb6604127aSessLaws
import Derived.WalkSpells
import Derived.WalkLawsBesides
import Derived.BigCall
import Derived.Deep.RegionLaw
import Derived.Deep.RegionHeld3
namespace Go.Proofs.Qxb6604127a
open Go.RowKit

def zreq : Value := .agg #[.int .u64 0, .int .i64 0, .int .i64 0, .bool false, .bool false, .bool false, .int .i64 0, .bool false, .int .i64 0, .int .i64 0, .int .i64 0, .bool false, .bool false]

theorem Try.info55 : (Try.prog.info? 55).map (fun i => (i.zero, i.size, i.bytes)) = some (some zreq, 13, 80) := by kernel_rfl

theorem hid {p : Prop} (h : p) : Hid p := h

/-- Elements 0 to n - 1 of a row of 'cap' places. -/
structure Row (w : World) (g n cap : Nat) (E : Nat → List Value) : Prop where
  el : ∀ k, k < n → w.rangeAt g (k * 13) (E k)
  th : w.there g 0 (cap * 13)
  lt : g < w.heap.size
  cp : n ≤ cap

structure Good (n : Nat) (E : Nat → List Value) : Prop where
  len : ∀ k, k < n → (E k).length = 13
  one : ∀ k, k < n → ∀ v ∈ E k, v.oneCell' = true

theorem Row.below {w w' : World} {B g n cap : Nat} {E : Nat → List Value} (h : Row w g n cap E) (hb : Below B w w') (hg : g < B) : Row w' g n cap E :=
  ⟨fun k hk => range_below (h.el k hk) hb hg, there_below h.th hb hg, Nat.lt_of_lt_of_le h.lt hb.size, h.cp⟩

theorem Row.drew {w : World} {g n cap : Nat} {E : Nat → List Value} (h : Row w g n cap E) : Row w.drew g n cap E := ⟨h.el, h.th, h.lt, h.cp⟩

theorem drew_setCells (b : Nat) : ∀ (vs : List Value) (o : Nat) (w : World), w.drew.setCells b o vs = (w.setCells b o vs).drew
  | [], _, _ => rfl
  | v :: r, o, w => by
    rw [World.setCells, World.setCells, show w.drew.setCell ⟨b, o, none⟩ v = (w.setCell ⟨b, o, none⟩ v).drew from ?_]
    · exact drew_setCells b r (o + 1) _
    · unfold World.setCell; split <;> rfl

def ins (E : Nat → List Value) (i : Nat) (V : List Value) (k : Nat) : List Value := if k < i then E k else if k = i then V else E (k - 1)

theorem Row.flat {w : World} {g n cap : Nat} {E : Nat → List Value} (h : Row w g n cap E) (hG : Good n E) (a m : Nat) (ham : a + m ≤ n) : w.rangeAt g (a * 13) (flat E a m) ∧ (flat E a m).length = m * 13 ∧ (∀ v ∈ flat E a m, v.oneCell' = true) := by
  refine ⟨(range_flat E m a (a * 13) (fun k hk => hG.len _ (by omega))).2 (fun k hk => ?_), flat_len E 13 m a (fun k hk => hG.len _ (by omega)), flat_one E m a (fun k hk => hG.one _ (by omega))⟩
  rw [← Nat.add_mul]; exact h.el _ (by omega)

theorem cells_new (w : World) (ROW : Array Value) (T : TypeId) : (w.drew.alloc (.cells ROW T)).rangeAt w.heap.size 0 ROW.toList ∧ (w.drew.alloc (.cells ROW T)).there w.heap.size 0 ROW.size := by
  constructor
  · intro j v hv
    rw [Nat.zero_add, World.cell?_alloc_at (w := w.drew) ROW T w.heap.size j rfl, ← hv, Array.getElem?_toList]
  · intro j hj
    rw [Nat.zero_add, World.cell?_alloc_at (w := w.drew) ROW T w.heap.size j rfl, World.frozen?_alloc_at (w := w.drew) ROW T w.heap.size j rfl, Array.getElem?_eq_getElem hj]
    exact ⟨rfl, rfl⟩

theorem ins_low {E : Nat → List Value} {i : Nat} {V : List Value} {k : Nat} (h : k < i) : ins E i V k = E k := by simp [ins, h]
theorem ins_at {E : Nat → List Value} {i : Nat} {V : List Value} : ins E i V i = V := by simp [ins]
theorem ins_high {E : Nat → List Value} {i : Nat} {V : List Value} {k : Nat} (h : i ≤ k) : ins E i V (k + 1) = E k := by
  have h1 : ¬ (k + 1 < i) := by omega
  have h2 : ¬ (k + 1 = i) := by omega
  simp [ins, h1, h2]

theorem lt_alloc (w : World) (o : Obj) : w.heap.size < (w.drew.alloc o).heap.size := by
  have h := heap_alloc_new w.drew o
  exact (Array.getElem?_eq_some_iff.1 h).1

theorem row_end (w : World) (n C : Nat) (E : Nat → List Value) (V : List Value) (ROW : Array Value) (hROW : ROW = (flat E 0 n).toArray ++ V.toArray ++ Builtin.zeroCells zreq.cells (C - (n + 1))) (hG : Good n E) (hVl : V.length = 13) (hC : n + 1 ≤ C) :
    Row (w.drew.alloc (.cells ROW 55)) w.heap.size (n + 1) C (ins E n V) := by
  obtain ⟨h1, h2⟩ := cells_new w ROW 55
  have hl : (flat E 0 n).length = n * 13 := flat_len E 13 n 0 (fun k hk => by rw [Nat.zero_add]; exact hG.len k hk)
  have hs : ROW.size = C * 13 := by
    rw [hROW]
    simp only [Array.size_append, List.size_toArray, size_zeroCells, hl, hVl]
    have : zreq.cells.size = 13 := rfl
    rw [this, ← Nat.add_one_mul, ← Nat.add_mul]; congr 1; omega
  have ht : ROW.toList = flat E 0 n ++ (V ++ (Builtin.zeroCells zreq.cells (C - (n + 1))).toList) := by rw [hROW]; simp
  rw [ht, range_append, range_append, hl, Nat.zero_add] at h1
  refine ⟨fun k hk => ?_, by rw [← hs]; exact h2, lt_alloc w _, hC⟩
  rcases Nat.lt_or_ge k n with h | h
  · rw [ins_low h]
    have := (range_flat (z := 13) E n 0 0 (fun k hk => by rw [Nat.zero_add]; exact hG.len k hk)).1 h1.1 k h
    simpa using this
  · obtain rfl : k = n := by omega
    rw [ins_at]; exact h1.2.1

set_option maxHeartbeats 4000000 in
set_option maxRecDepth 100000 in
theorem ins_end (b n vb : Nat) (E : Nat → List Value) (V : List Value) (w : World) (hR : Row w b n n E) (hG : Good n E) (hV : w.rangeAt vb 0 V) (hVl : V.length = 13) (hn : n ≤ 100000) :
    Calls Try.prog 25 #[.slice (some ⟨b, 0, none⟩) n n, .int .i64 n, .slice (some ⟨vb, 0, none⟩) 1 1] w fun e w' =>
      ∃ cap, e = .returned (.slice (some ⟨w.heap.size, 0, none⟩) (n + 1) cap) ∧ Row w' w.heap.size (n + 1) cap (ins E n V) ∧ cap ≤ maxLen ∧ Below w.heap.size w w' := by
  obtain ⟨i0, hi, hz0, hz1, hz2⟩ := info_parts Try.info55
  obtain ⟨f1, f2, _⟩ := hR.flat hG 0 n (by omega)
  simp only [Nat.zero_mul] at f1
  have hr : ∀ ty, (Builtin.append_ #[53, 52] ty #[.slice (some ⟨b, 0, none⟩) n n, .slice (some ⟨vb, 0, none⟩) 1 1]).run Try.prog w = _ := fun ty =>
    (run_append_two w 53 52 ty 55 i0 Try.underlying53 Try.underlying52 hi _ _ _ _ _ _).trans
      (run_append_grow (P := Try.prog) w 53 ty 55 i0 zreq Try.underlying53 hi hz0 ⟨b, 0, none⟩ n n (flat E 0 n) (by rw [f2, hz1]) (range_add f1) ⟨vb, 0, none⟩ 1 1 V (by rw [hVl, hz1]) (range_add hV) (by omega) (by omega) (growslice_fits (by omega) (by rw [hz2]; omega)))
  have hC1 := grownCap_ge w (n + 1) n 55
  have hC2 := grownCap_le_maxLen w (n + 1) n 55 (by unfold maxLen; omega)
  generalize grownCap w (n + 1) n 55 = C at hr hC1 hC2
  have hE := row_end w n C E V _ rfl hG hVl hC1
  have hB : Below w.heap.size w (w.drew.alloc (.cells ((flat E 0 n).toArray ++ V.toArray ++ Builtin.zeroCells zreq.cells (C - (n + 1))) 55)) := (Below.refl _ w).drew.alloc (Nat.le_refl _) _
  generalize w.drew.alloc (.cells ((flat E 0 n).toArray ++ V.toArray ++ Builtin.zeroCells zreq.cells (C - (n + 1))) 55) = W1 at hr hE hB
  go_enter Try.func25, Try.ntmps25
  go_wp2_with (at_builtin; refine Lib.wpList_append_run _ rfl _ _ _ _ rfl _ _ rfl rfl _ _ (hr _) ?_)
  go_ret
  exact ⟨C, rfl, hE, hC2, hB⟩

theorem row_mid (w : World) (n C i : Nat) (E : Nat → List Value) (V : List Value) (ROW : Array Value) (hROW : ROW = (flat E 0 i).toArray ++ Builtin.zeroCells zreq.cells (n + 1 - i) ++ Builtin.zeroCells zreq.cells (C - (n + 1))) (hG : Good n E) (hVl : V.length = 13) (hC : n + 1 ≤ C) (hi : i < n) :
    (w.drew.alloc (.cells ROW 55)).there w.heap.size 0 (C * 13) ∧
    Row (((w.drew.alloc (.cells ROW 55)).setCells w.heap.size (i * 13) V).setCells w.heap.size ((i + 1) * 13) (flat E i (n - i))) w.heap.size (n + 1) C (ins E i V) := by
  obtain ⟨h1, h2⟩ := cells_new w ROW 55
  have hl : (flat E 0 i).length = i * 13 := flat_len E 13 i 0 (fun k hk => by rw [Nat.zero_add]; exact hG.len k (by omega))
  have hl2 : (flat E i (n - i)).length = (n - i) * 13 := flat_len E 13 (n - i) i (fun k hk => hG.len _ (by omega))
  have hs : ROW.size = C * 13 := by
    rw [hROW]
    simp only [Array.size_append, List.size_toArray, size_zeroCells, hl]
    have : zreq.cells.size = 13 := rfl
    rw [this, ← Nat.add_mul, ← Nat.add_mul]; congr 1; omega
  have ht : ROW.toList = flat E 0 i ++ ((Builtin.zeroCells zreq.cells (n + 1 - i)).toList ++ (Builtin.zeroCells zreq.cells (C - (n + 1))).toList) := by rw [hROW]; simp
  rw [ht, range_append] at h1
  rw [hs] at h2
  have hlo := (range_flat (z := 13) E i 0 0 (fun k hk => by rw [Nat.zero_add]; exact hG.len k (by omega))).1 h1.1
  have tA : (w.drew.alloc (.cells ROW 55)).there w.heap.size (i * 13) V.length := there_sub h2 (by omega) (by rw [hVl]; omega)
  have tB : ((w.drew.alloc (.cells ROW 55)).setCells w.heap.size (i * 13) V).there w.heap.size ((i + 1) * 13) (flat E i (n - i)).length := World.there_setCells (there_sub h2 (by omega) (by rw [hl2]; omega)) _ _ _
  have rA := World.rangeAt_setCells_same _ _ _ V tA
  have rB := World.rangeAt_setCells_same _ _ _ _ tB
  have rBf := (range_flat (z := 13) E (n - i) i ((i + 1) * 13) (fun k hk => hG.len _ (by omega))).1 rB
  refine ⟨h2, fun k hk => ?_, World.there_setCells (World.there_setCells h2 _ _ _) _ _ _, ?_, hC⟩
  · rcases Nat.lt_or_ge k i with h | h
    · rw [ins_low h]
      have hg := hG.len k (by omega)
      have := hlo k h
      simp only [Nat.zero_add] at this
      exact World.rangeAt_setCells_apart (World.rangeAt_setCells_apart this _ _ _ (.inr (.inl (by rw [hg]; omega)))) _ _ _ (.inr (.inl (by rw [hg]; omega)))
    · rcases Nat.eq_or_lt_of_le h with h | h
      · subst h
        rw [ins_at]
        exact World.rangeAt_setCells_apart rA _ _ _ (.inr (.inl (by rw [hVl]; omega)))
      · obtain ⟨j, rfl⟩ : ∃ j, k = i + j + 1 := ⟨k - i - 1, by omega⟩
        rw [ins_high (by omega)]
        have := rBf j (by omega)
        rwa [← Nat.add_mul, show i + 1 + j = i + j + 1 from by omega] at this
  · exact Nat.lt_of_lt_of_le (lt_alloc w _) (below_setCells (B := 0) (Nat.zero_le _) _ _ _ (below_setCells (B := 0) (Nat.zero_le _) _ _ _ (Below.refl _ _))).size

set_option maxHeartbeats 4000000 in
set_option maxRecDepth 100000 in
theorem ins_mid (b n vb i : Nat) (E : Nat → List Value) (V : List Value) (w : World) (hR : Row w b n n E) (hG : Good n E) (hV : w.rangeAt vb 0 V) (hvb : vb < w.heap.size) (hVl : V.length = 13) (hV1 : ∀ v ∈ V, v.oneCell' = true) (hn : n ≤ 100000) (hin : i < n) :
    Calls Try.prog 25 #[.slice (some ⟨b, 0, none⟩) n n, .int .i64 i, .slice (some ⟨vb, 0, none⟩) 1 1] w fun e w' =>
      ∃ cap, e = .returned (.slice (some ⟨w.heap.size, 0, none⟩) (n + 1) cap) ∧ Row w' w.heap.size (n + 1) cap (ins E i V) ∧ cap ≤ maxLen ∧ Below w.heap.size w w' := by
  obtain ⟨i0, hi, hz0, hz1, hz2⟩ := info_parts Try.info55
  obtain ⟨f1, f2, _⟩ := hR.flat hG 0 i (by omega)
  obtain ⟨g1, g2, g3⟩ := hR.flat hG i (n - i) (by omega)
  simp only [Nat.zero_mul] at f1
  have hsz : (Try.prog.info? 55).map (·.size) = some 13 := by rw [hi]; simp [hz1]
  have hkk : (n : Int) + 1 - (i : Int) = ((n + 1 - i : Nat) : Int) := by omega
  have hik : i + (n + 1 - i) = n + 1 := by omega
  have hold : (Builtin.firstCells i0.size i (.slice (some ⟨b, 0, none⟩) i n)).run Try.prog w.drew = .ok (flat E 0 i).toArray w.drew := by
    rw [hz1]
    exact run_firstCells_some w.drew 13 i ⟨b, 0, none⟩ i n (flat E 0 i) f2 (range_add f1)
  have hrz : ∀ ty, (Builtin.append_ #[53, 3] ty #[.slice (some ⟨b, 0, none⟩) i n, .int .i64 ((n : Int) + 1 - (i : Int))]).run Try.prog w =
      .ok (.slice (some ⟨w.heap.size, 0, none⟩) (n + 1) (grownCap w (n + 1) n 55)) (w.drew.alloc (.cells ((flat E 0 i).toArray ++ Builtin.zeroCells zreq.cells (n + 1 - i) ++ Builtin.zeroCells zreq.cells (grownCap w (n + 1) n 55 - (n + 1))) 55)) := fun ty => by
    have h := Lib.run_append_grow_zeros w 53 3 ty 55 i0 _ .i64 .i64 Try.underlying53 Try.underlying3 hi hz0 (some ⟨b, 0, none⟩) i n (flat E 0 i) hold (n + 1 - i) (by omega) (by omega) (by omega) (by omega) (by rw [hz2]; omega) (by rw [hz2, hik]; exact growslice_fits (by omega) (by omega))
    rw [hik] at h
    rw [hkk]
    exact h
  have hC1 := grownCap_ge w (n + 1) n 55
  have hC2 := grownCap_le_maxLen w (n + 1) n 55 (by unfold maxLen; omega)
  generalize grownCap w (n + 1) n 55 = C at hrz hC1 hC2
  obtain ⟨hE0, hE⟩ := row_mid w n C i E V _ rfl hG hVl hC1 hin
  have hB : Below w.heap.size w (w.drew.alloc (.cells ((flat E 0 i).toArray ++ Builtin.zeroCells zreq.cells (n + 1 - i) ++ Builtin.zeroCells zreq.cells (C - (n + 1))) 55)) := (Below.refl _ w).drew.alloc (Nat.le_refl _) _
  generalize w.drew.alloc (.cells ((flat E 0 i).toArray ++ Builtin.zeroCells zreq.cells (n + 1 - i) ++ Builtin.zeroCells zreq.cells (C - (n + 1))) 55) = W1 at hrz hE0 hE hB
  have hblt := hR.lt
  have hcpA : ∀ (W : World), (∀ x, W.cell? x = W1.cell? x) → (∀ x, W.frozen? x = W1.frozen? x) → ∀ ty dc, (Builtin.copy_ #[53, 52] ty #[.slice (some ⟨w.heap.size, i * 13, none⟩) (n + 1 - i) dc, .slice (some ⟨vb, 0, none⟩) 1 1]).run Try.prog W = .ok (goInt 1) (W.setCells w.heap.size (i * 13) V) := fun W hWc hWf ty dc => by
    have := run_copy_k (P := Try.prog) W 53 52 ty 55 13 w.heap.size (i * 13) (n + 1 - i) dc ⟨vb, 0, none⟩ 1 1 V Try.underlying53 hsz (by rw [hVl]; simp only [Nat.min_def]; split <;> omega)
      (fun j v hj => by rw [hWc]; exact range_add (range_below hV hB hvb) j v hj)
      (fun j hj => by rw [hWc, hWf]; exact there_sub (n' := 13) hE0 (by omega) (by omega) j (by rw [hVl] at hj; exact hj)) hV1
    rwa [show Nat.min 1 (n + 1 - i) = 1 from by simp only [Nat.min_def]; split <;> omega] at this
  have hcpB : ∀ (W : World), (∀ x, W.cell? x = (W1.setCells w.heap.size (i * 13) V).cell? x) → (∀ x, W.frozen? x = (W1.setCells w.heap.size (i * 13) V).frozen? x) → ∀ ty dc sc, (Builtin.copy_ #[53, 53] ty #[.slice (some ⟨w.heap.size, (i + 1) * 13, none⟩) (n + 1 - (i + 1)) dc, .slice (some ⟨b, i * 13, none⟩) (n - i) sc]).run Try.prog W = .ok (goInt ((n - i : Nat) : Int)) (W.setCells w.heap.size ((i + 1) * 13) (flat E i (n - i))) := fun W hWc hWf ty dc sc => by
    have := run_copy_k (P := Try.prog) W 53 53 ty 55 13 w.heap.size ((i + 1) * 13) (n + 1 - (i + 1)) dc ⟨b, i * 13, none⟩ (n - i) sc (flat E i (n - i)) Try.underlying53 hsz (by rw [g2]; congr 1; simp only [Nat.min_def]; split <;> omega)
      (fun j v hj => by rw [hWc]; exact range_add (World.rangeAt_setCells_apart (range_below g1 hB hblt) _ _ _ (.inl (by omega))) j v hj)
      (fun j hj => by rw [hWc, hWf]; exact World.there_setCells (there_sub hE0 (by omega) (by rw [g2]; omega)) _ _ _ j hj) g3
    rwa [show Nat.min (n - i) (n + 1 - (i + 1)) = n - i from by simp only [Nat.min_def]; split <;> omega] at this
  have hw1 : IntKind.i64.wrap ((i : Int) + 1) = (i : Int) + 1 := by rw [IntKind.wrap_i64]; omega
  have hw2 : IntKind.i64.wrap ((n : Int) + 1) = (n : Int) + 1 := by rw [IntKind.wrap_i64]; omega
  have hw3 : IntKind.i64.wrap ((n : Int) + 1 - (i : Int)) = (n : Int) + 1 - (i : Int) := by rw [IntKind.wrap_i64]; omega
  have hb1 : (0 : Int) ≤ (i : Int) + 1 := by omega
  have hin' : i ≤ n := by omega
  have htn : ((i : Int) + 1).toNat = i + 1 := by omega
  have hb3 : (i : Int) ≤ (n : Int) := by omega
  have hz2' : ¬ ((i : Int) = (n : Int)) := by omega
  have hz3 : (n : Int) < (n : Int) + 1 := by omega
  have hni : ¬ (n = i) := by omega
  have hCi : ¬ (C = i) := by omega
  have hCi1 : ¬ (C = i + 1) := by omega
  clear hold hkk hik hz0 hz1 hz2 hi f1 f2 hsz
  go_enter Try.func25, Try.ntmps25
  go_wp2_with (first
    | (at_builtin; refine Lib.wpList_append_run _ rfl _ _ _ _ rfl _ _ rfl rfl _ _ (hrz _) ?_)
    | fail)
  have hF1 : ∀ x, ((W1.setCells w.heap.size (i * 13) V).drew).cell? x = (W1.setCells w.heap.size (i * 13) V).cell? x := fun x => rfl
  have hF2 : ∀ x, ((W1.setCells w.heap.size (i * 13) V).drew).frozen? x = (W1.setCells w.heap.size (i * 13) V).frozen? x := fun x => rfl
  go_region_law (refine step_copy_runI rfl _ _ 53 53 rfl (.slice (some ⟨w.heap.size, (i + 1) * 13, none⟩) (n + 1 - (i + 1)) (C - (i + 1))) (.slice (some ⟨b, i * 13, none⟩) (n - i) (n - i)) (by simp [Act.eval, Act.put]) (by simp [Act.eval, Act.put]) (hcpB _ hF1 hF2 3 (C - (i + 1)) (n - i)) ?_)
  go_wp2
  go_ret
  refine ⟨C, rfl, ?_, hC2, ?_⟩
  · rw [drew_setCells]; exact hE.drew
  · exact below_setCells (Nat.le_refl _) _ _ _ (below_setCells (Nat.le_refl _) _ _ _ hB).drew

/-- slices.Insert of one element into a full row. -/
theorem insert_walk (b n vb i : Nat) (E : Nat → List Value) (V : List Value) (w : World) (hR : Row w b n n E) (hG : Good n E) (hV : w.rangeAt vb 0 V) (hvb : vb < w.heap.size) (hVl : V.length = 13) (hV1 : ∀ v ∈ V, v.oneCell' = true) (hn : n ≤ 100000) (hin : i ≤ n) :
    Calls Try.prog 25 #[.slice (some ⟨b, 0, none⟩) n n, .int .i64 i, .slice (some ⟨vb, 0, none⟩) 1 1] w fun e w' =>
      ∃ cap, e = .returned (.slice (some ⟨w.heap.size, 0, none⟩) (n + 1) cap) ∧ Row w' w.heap.size (n + 1) cap (ins E i V) ∧ cap ≤ maxLen ∧ Below w.heap.size w w' := by
  rcases Nat.eq_or_lt_of_le hin with h | h
  · subst h; exact ins_end b i vb E V w hR hG hV hVl hn
  · exact ins_mid b n vb i E V w hR hG hV hvb hVl hV1 hn h

theorem ins_good {n i : Nat} {E : Nat → List Value} {V : List Value} (hG : Good n E) (hVl : V.length = 13) (hV1 : ∀ v ∈ V, v.oneCell' = true) (hin : i ≤ n) : Good (n + 1) (ins E i V) := by
  constructor
  · intro k hk
    unfold ins
    split
    · exact hG.len k (by omega)
    · split
      · exact hVl
      · exact hG.len _ (by omega)
  · intro k hk
    unfold ins
    split
    · exact hG.one k (by omega)
    · split
      · exact hV1
      · exact hG.one _ (by omega)
end Go.Proofs.Qxb6604127a
