/-
  LAWS ON ROWS OF ELEMENTS OF SEVERAL CELLS: copy, clear, append of two slice types; elements in a row, one by one.
-/
import Derived.WalkKit
import Derived.Deep.MidRow
import Derived.ArgAppend
import Derived.Lib.AppendZeros
import Derived.Lib.AppendZerosOnto
import Derived.Shelf.Spec.SlicesInsert
namespace Go.Proofs.Qxb6604127a
open Go.RowKit

section
variable {P : Program}

/-- 'copy(dst, src)': all is read before anything is written. -/
theorem run_copy_k (w : World) (dT sT ty elem : TypeId) (size b o dLen dCap : Nat) (a : Addr) (sLen sCap : Nat) (cs : List Value)
    (hu : P.underlying dT = some (.slice elem)) (hs : (P.info? elem).map (·.size) = some size) (hn : cs.length = Nat.min sLen dLen * size)
    (hsrc : ∀ j v, cs[j]? = some v → w.cell? (a.add j) = some v) (ht : w.there b o cs.length) (h1 : ∀ v ∈ cs, v.oneCell' = true) :
    (Builtin.copy_ #[dT, sT] ty #[.slice (some ⟨b, o, none⟩) dLen dCap, .slice (some a) sLen sCap]).run P w = .ok (goInt (Nat.min sLen dLen)) (w.setCells b o cs) := by
  have hl := run_loadCells_list (P := P) w a cs hsrc
  have hst := run_storeCells_cells (P := P) b o cs 0 w (fun j hj => by simpa using (ht j hj).1) (fun j hj => by simpa using (ht j hj).2) h1
  cases hq : P.info? elem with
  | none => simp [hq] at hs
  | some i =>
    have hi : i.size = size := by simpa [hq] using hs
    simp [Builtin.copy_, run_underlying hu, Builtin.lenOf, Builtin.firstCells, sizeOf, typeInfo, hq, hi, ← hn, hl, hst]

/-- 'append(s, v...)' where the two slice types have one element type. -/
theorem run_append_two (w : World) (t u ty e : TypeId) (i : TypeInfo) (ht : P.underlying t = some (.slice e)) (hu : P.underlying u = some (.slice e)) (hi : P.info? e = some i) (a1 : Option Addr) (n1 c1 : Nat) (a2 : Option Addr) (n2 c2 : Nat) :
    (Builtin.append_ #[t, u] ty #[.slice a1 n1 c1, .slice a2 n2 c2]).run P w = (Builtin.append_ #[t, t] ty #[.slice a1 n1 c1, .slice a2 n2 c2]).run P w := by
  simp [Builtin.append_, run_underlying ht, run_underlying hu, sizeOf, typeInfo, hi, Builtin.lenOf]

/-- 'clear(s)', s of n > 0 elements. -/
theorem run_clear_k (w : World) (t e ty : TypeId) (z : Value) (ht : P.underlying t = some (.slice e)) (hv : ∀ w, (zeroValue e).run P w = .ok z w) (b o n c : Nat) (hn : 0 < n) (zs : List Value) (hz : (Builtin.zeroCells z.cells n).toList = zs)
    (hth : w.there b o zs.length) (h1 : ∀ v ∈ zs, v.oneCell' = true) :
    (Builtin.clear_ #[t] ty #[.slice (some ⟨b, o, none⟩) n c]).run P w = .ok (.tuple #[]) (w.setCells b o zs) := by
  have hst := run_storeCells_cells (P := P) b o zs 0 w (fun j hj => by simpa using (hth j hj).1) (fun j hj => by simpa using (hth j hj).2) h1
  simp only [Nat.add_zero] at hst
  obtain ⟨m, rfl⟩ : ∃ m, n = m + 1 := ⟨n - 1, by omega⟩
  simp [Builtin.clear_, run_underlying ht, hv, hz, hst]
end

/-! ### Elements in a row, one by one -/

/-- The cells of m elements from a on. -/
def flat (E : Nat → List Value) : Nat → Nat → List Value
  | _, 0 => []
  | a, m + 1 => E a ++ flat E (a + 1) m

theorem flat_len (E : Nat → List Value) (z : Nat) (m : Nat) : ∀ a, (∀ k, k < m → (E (a + k)).length = z) → (flat E a m).length = m * z := by
  induction m with
  | zero => intro a _; simp [flat]
  | succ m ih =>
    intro a h
    have h0 := h 0 (by omega)
    have := ih (a + 1) (fun k hk => by have := h (k + 1) (by omega); rwa [show a + (k + 1) = a + 1 + k from by omega] at this)
    simp only [flat, List.length_append, this, Nat.add_zero] at h0 ⊢
    rw [h0, Nat.add_mul]; omega

theorem range_append {w : World} {b o : Nat} {xs ys : List Value} : w.rangeAt b o (xs ++ ys) ↔ w.rangeAt b o xs ∧ w.rangeAt b (o + xs.length) ys := by
  constructor
  · intro h
    refine ⟨fun j v hv => h j v ?_, fun j v hv => ?_⟩
    · rw [List.getElem?_append_left (List.getElem?_eq_some_iff.1 hv).1]; exact hv
    · have := h (xs.length + j) v (by rw [List.getElem?_append_right (by omega), Nat.add_sub_cancel_left]; exact hv)
      rwa [← Nat.add_assoc] at this
  · rintro ⟨h1, h2⟩ j v hv
    rcases Nat.lt_or_ge j xs.length with hj | hj
    · rw [List.getElem?_append_left hj] at hv; exact h1 j v hv
    · rw [List.getElem?_append_right hj] at hv
      have := h2 (j - xs.length) v hv
      rwa [show o + xs.length + (j - xs.length) = o + j from by omega] at this

theorem range_flat {w : World} {b z : Nat} (E : Nat → List Value) (m : Nat) : ∀ (a o : Nat), (∀ k, k < m → (E (a + k)).length = z) → (w.rangeAt b o (flat E a m) ↔ ∀ k, k < m → w.rangeAt b (o + k * z) (E (a + k))) := by
  induction m with
  | zero =>
    intro a o _
    constructor
    · intro _ k hk; omega
    · intro _ j v hv; simp [flat] at hv
  | succ m ih =>
    intro a o h
    have h0 := h 0 (by omega)
    have hh : ∀ k, k < m → (E (a + 1 + k)).length = z := fun k hk => by have := h (k + 1) (by omega); rwa [show a + (k + 1) = a + 1 + k from by omega] at this
    rw [flat, range_append, ih (a + 1) _ hh]
    simp only [Nat.add_zero] at h0
    constructor
    · rintro ⟨h1, h2⟩ k hk
      cases k with
      | zero => simpa using h1
      | succ k =>
        have := h2 k (by omega)
        rw [h0] at this
        rw [show a + (k + 1) = a + 1 + k from by omega, show o + (k + 1) * z = o + z + k * z from by rw [Nat.add_mul]; omega]
        exact this
    · intro h1
      refine ⟨by simpa using h1 0 (by omega), fun k hk => ?_⟩
      have := h1 (k + 1) (by omega)
      rw [show a + (k + 1) = a + 1 + k from by omega, show o + (k + 1) * z = o + z + k * z from by rw [Nat.add_mul]; omega] at this
      rw [h0]; exact this

theorem flat_one (E : Nat → List Value) (m : Nat) : ∀ a, (∀ k, k < m → ∀ v ∈ E (a + k), v.oneCell' = true) → ∀ v ∈ flat E a m, v.oneCell' = true := by
  induction m with
  | zero => intro a _ v hv; simp [flat] at hv
  | succ m ih =>
    intro a h v hv
    rw [flat, List.mem_append] at hv
    rcases hv with hv | hv
    · exact h 0 (by omega) v (by simpa using hv)
    · exact ih (a + 1) (fun k hk v hv => h (k + 1) (by omega) v (by rwa [show a + (k + 1) = a + 1 + k from by omega])) v hv

theorem there_sub {w : World} {b o n o' n' : Nat} (h : w.there b o n) (h1 : o ≤ o') (h2 : o' + n' ≤ o + n) : w.there b o' n' := fun j hj => by
  have := h (o' - o + j) (by omega)
  rwa [show o + (o' - o + j) = o' + j from by omega] at this

theorem range_add {w : World} {b o : Nat} {cs : List Value} (h : w.rangeAt b o cs) : ∀ j v, cs[j]? = some v → w.cell? ((⟨b, o, none⟩ : Addr).add j) = some v := fun j v hv => by
  rw [Addr.add_mid]; exact h j v hv

theorem range_below {w w' : World} {B b o : Nat} {cs : List Value} (h : w.rangeAt b o cs) (hb : Below B w w') (hlt : b < B) : w'.rangeAt b o cs := fun j v hv =>
  (hb.cell (p := ⟨b, o + j, none⟩) hlt).trans (h j v hv)
theorem there_below {w w' : World} {B b o n : Nat} (h : w.there b o n) (hb : Below B w w') (hlt : b < B) : w'.there b o n := fun j hj => by
  have h1 := hb.cell (p := ⟨b, o + j, none⟩) hlt
  have h2 := hb.frozen (p := ⟨b, o + j, none⟩) hlt
  rw [h1, h2]; exact h j hj

theorem below_setCells {B b : Nat} {w0 : World} (hB : B ≤ b) : ∀ (vs : List Value) (o : Nat) (w : World), Below B w0 w → Below B w0 (w.setCells b o vs)
  | [], _, _, h => h
  | v :: r, o, _, h => below_setCells hB r (o + 1) _ (h.setCell (p := ⟨b, o, none⟩) hB v)
end Go.Proofs.Qxb6604127a
