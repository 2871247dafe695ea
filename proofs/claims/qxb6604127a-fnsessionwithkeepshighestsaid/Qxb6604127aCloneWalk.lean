/-
  THE WALK OF cloneBytes.
-/
import Derived.Test.Qxb6604127aReadSmall
import Derived.Lib.LazyBuf
namespace Go.Proofs.Qxb6604127a
open Go.RowKit

theorem sc_ne (w : World) (b1 o1 b2 o2 : Nat) (v : Value) (h : b1 ≠ b2 ∨ o1 ≠ o2) : (w.setCell ⟨b1, o1, none⟩ v).cell? ⟨b2, o2, none⟩ = w.cell? ⟨b2, o2, none⟩ := by
  apply World.cell?_setCell_other
  intro e
  injection e with e1 e2
  rcases h with h | h
  · exact h e1
  · exact h e2

theorem sc_eq {w : World} {a : Addr} {v u : Value} (h : w.cell? a = some u) : (w.setCell a v).cell? a = some v := by
  apply World.cell?_setCell_same
  exact h

/-- The copy, its first k cells written. -/
structure CS (w x : World) (f : Nat → Int) (len k : Nat) : Prop where
  done : ∀ j, j < k → x.cell? ⟨w.heap.size, j, none⟩ = some (.int .u8 (f j))
  there : ∀ j, j < len → ∃ u, x.cell? ⟨w.heap.size, j, none⟩ = some u
  fro : ∀ j, x.frozen? ⟨w.heap.size, j, none⟩ = false
  lt : w.heap.size < x.heap.size
  bel : Below w.heap.size w x

theorem CS.step {w x : World} {f : Nat → Int} {len k : Nat} (h : CS w x f len k) (hk : k < len) : CS w (x.setCell ⟨w.heap.size, k, none⟩ (.int .u8 (f k))) f len (k + 1) := by
  refine ⟨?_, ?_, ?_, by simpa [World.setCell] using h.lt, h.bel.setCell (p := ⟨w.heap.size, k, none⟩) (Nat.le_refl _) _⟩
  · intro j hj
    by_cases e : k = j
    · subst e
      obtain ⟨u, hu⟩ := h.there k hk
      exact sc_eq hu
    · rw [sc_ne _ _ _ _ _ _ (Or.inr e)]; exact h.done j (by omega)
  · intro j hj
    by_cases e : k = j
    · subst e
      obtain ⟨u, hu⟩ := h.there k hk
      exact ⟨_, sc_eq hu⟩
    · rw [sc_ne _ _ _ _ _ _ (Or.inr e)]; exact h.there j hj
  · intro j; simp [h.fro j]

theorem frozen_at {w : World} {b : Nat} {cs : Array Value} {T : TypeId} (h : w.heap[b]? = some (.cells cs T (0, 0))) (j : Nat) : w.frozen? ⟨b, j, none⟩ = false := by
  simp [World.frozen?, h]

set_option maxHeartbeats 1000000 in
theorem clone_nil (w : World) : Calls Try.prog 8 #[.slice none 0 0] w fun e w' => e = .returned (.slice none 0 0) ∧ w' = w := by
  have hnil := Lib.run_eql_slice_nil (P := Try.prog) w 22 5 none 0 0 0 0 Try.underlying22
  go_enter Try.func8, Try.ntmps8
  go_wp2
  go_ret
  exact ⟨rfl, rfl⟩

set_option maxHeartbeats 1000000 in
set_option maxRecDepth 100000 in
theorem clone_any (xa : Addr) (g o len cap : Nat) (f : Nat → Int) (w : World) (hl : len ≤ 1048576) (hx : 0 < len → xa = ⟨g, o, none⟩) (hc : ∀ j, j < len → w.cell? ⟨g, o + j, none⟩ = some (.int .u8 (f j))) (hg : 0 < len → g < w.heap.size) :
    Calls Try.prog 8 #[.slice (some xa) len cap] w fun e w' => e = .returned (.slice (some ⟨w.heap.size, 0, none⟩) len len) ∧ CS w w' f len len := by
  obtain ⟨i0, hi, hz0, hz1, hz2⟩ := info_parts Try.info5
  have hnil := Lib.run_eql_slice_nil (P := Try.prog) w 22 5 (some xa) len cap 0 0 Try.underlying22
  obtain ⟨x1, hmk, own1, gr1⟩ := run_make_full (P := Try.prog) w w.heap.size 22 5 i0 (.int .u8 0) 1 Try.underlying22 hi hz0 hz1 .i64 .i64 len (by rw [hz2]; omega) (by unfold maxLen; omega) (Nat.le_refl _)
  have C0 : CS w x1 f len 0 := by
    rcases own1.2 with ⟨h, _⟩ | ⟨g1, cap1, cur1, h, _, hh, _, _, hs, _⟩
    · cases h
    · injection h with h1 h2 h3
      injection h1 with h1
      injection h1 with h1 _ _
      subst h1 h3
      refine ⟨fun j hj => by omega, fun j hj => ?_, frozen_at hh, (Array.getElem?_eq_some_iff.1 hh).1, Below.grown (Below.refl _ w) gr1 (Nat.le_refl _) (fun k hk => by cases hk)⟩
      rw [Lib.cell_of_heap hh]
      exact ⟨_, Array.getElem?_eq_getElem (by omega)⟩
  have HC := hid hc
  have HC0 := hid C0
  have HG := hid hg
  have HX := hid hx
  clear hc C0 own1 gr1 hg hx
  go_enter Try.func8, Try.ntmps8
  go_wp2
  go_loopw [4] (fun k x => ∃ j : Nat, j ≤ len ∧ k = .int .i64 j ∧ Hid (CS w x f len j)) (fun k _ => len - (intOf k).toNat)
  case atStart => exact ⟨0, Nat.zero_le _, rfl, HC0⟩
  case round =>
    obtain ⟨j, hj, rfl, H⟩ := hrel
    clear HC0
    by_cases hlt : j < len
    · have hxx := HX.out (by omega)
      subst hxx
      have e1 := (H.out.bel.cell (p := ⟨g, o + j, none⟩) (HG.out (by omega))).trans (HC.out j hlt)
      obtain ⟨u, e2⟩ := H.out.there j hlt
      have e3 := H.out.fro j
      have b0 : (0 : Int) ≤ (j : Int) := by omega
      have b1 : (j : Int) < (len : Int) := by omega
      go_wp2
      go_roundw
      case rel => exact ⟨j + 1, by omega, by go_num, hid (H.out.step hlt)⟩
      case measure => simp [intOf]; omega
    · have hjl : j = len := by omega
      subst hjl
      clear hj hlt
      go_wp2
      go_ret
      exact ⟨rfl, H.out⟩
end Go.Proofs.Qxb6604127a
