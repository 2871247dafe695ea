/-
  THE WALKS OF lowerBound, cloneU64, zzBytes_FnSessionWithKeepsHighest.
-/
import Derived.Test.Qxb6604127aKeepPlain
namespace Go.Proofs.Qxb6604127a
open Go.RowKit

set_option maxHeartbeats 1000000 in
set_option maxRecDepth 100000 in
theorem lb_walk (g n cap j : Nat) (A : Nat → Int) (x : Int) (w : World) (hc : ∀ k, k < n → w.cell? ⟨g, k, none⟩ = some (.int .u64 (A k))) (hj : LB n A x j) (hn : n ≤ 10000) :
    Calls Try.prog 19 #[.slice (some ⟨g, 0, none⟩) n cap, .int .u64 x] w fun e w' => e = .returned (.int .i64 j) ∧ w' = w := by
  have HC := hid hc
  have HJ := hid hj
  have hjn := hj.le
  clear hc hj
  go_enter Try.func19, Try.ntmps19
  go_wp2
  go_loopw [5, 6, 7] (fun k5 k6 _ y => ∃ lo hi : Nat, k5 = .int .i64 lo ∧ k6 = .int .i64 hi ∧ lo ≤ j ∧ j ≤ hi ∧ hi ≤ n ∧ Hid (y = w)) (fun k5 k6 _ _ => (intOf k6).toNat - (intOf k5).toNat)
  case atStart => exact ⟨0, n, rfl, rfl, Nat.zero_le _, hjn, Nat.le_refl _, rfl⟩
  case round =>
    obtain ⟨lo, hi, rfl, rfl, h1, h2, h3, H⟩ := hrel
    obtain rfl := H.out
    clear H
    by_cases hlt : lo < hi
    · obtain ⟨m, hm⟩ : ∃ m, m = (hi - lo) / 2 := ⟨_, rfl⟩
      have q1 : IntKind.i64.wrap ((hi : Int) - (lo : Int)) = (hi : Int) - (lo : Int) := by rw [IntKind.wrap_i64]; omega
      have q2 : ((hi : Int) - (lo : Int)).tdiv 2 = (m : Int) := by rw [Int.tdiv_eq_ediv_of_nonneg (by omega)]; omega
      have hml : lo + m < hi := by omega
      have q3 : IntKind.i64.wrap ((lo : Int) + (m : Int)) = (lo : Int) + (m : Int) := by rw [IntKind.wrap_i64]; omega
      have q4 : IntKind.i64.wrap ((lo : Int) + (m : Int) + 1) = (lo : Int) + (m : Int) + 1 := by rw [IntKind.wrap_i64]; omega
      have q5 : IntKind.i64.wrap (m : Int) = (m : Int) := by rw [IntKind.wrap_i64]; omega
      clear hm
      have e1 := HC.out (lo + m) (by omega)
      have q0 : (lo : Int) < (hi : Int) := by omega
      have b0 : (0 : Int) ≤ (lo : Int) + (m : Int) := by omega
      have b1 : (lo : Int) + (m : Int) < (n : Int) := by omega
      by_cases hA : A (lo + m) < x
      · have hmj : lo + m < j := by
          rcases Nat.lt_or_ge (lo + m) j with h | h
          · exact h
          · have := HJ.out.hi (lo + m) h (by omega); omega
        clear h1
        go_wp2
        go_roundw
        case rel => exact ⟨lo + m + 1, hi, by go_num, rfl, by omega, h2, h3, trivial⟩
        case measure => simp [intOf]; omega
      · have hmj : j ≤ lo + m := by
          rcases Nat.lt_or_ge (lo + m) j with h | h
          · have := HJ.out.lo (lo + m) h; omega
          · exact h
        clear h2
        go_wp2
        go_roundw
        case rel => exact ⟨lo, lo + m, rfl, by go_num, h1, by omega, by omega, trivial⟩
        case measure => simp [intOf]; omega
    · obtain rfl : lo = j := by omega
      go_wp2
      go_ret
      exact ⟨rfl, rfl⟩
/-- The copy of a slice of uint64, its first k cells written. -/
structure CU (w x : World) (f : Nat → Int) (len k : Nat) : Prop where
  done : ∀ j, j < k → x.cell? ⟨w.heap.size, j, none⟩ = some (.int .u64 (f j))
  th : x.there w.heap.size 0 len
  lt : w.heap.size < x.heap.size
  bel : Below w.heap.size w x

theorem CU.step {w x : World} {f : Nat → Int} {len k : Nat} (h : CU w x f len k) (hk : k < len) : CU w (x.setCell ⟨w.heap.size, k, none⟩ (.int .u64 (f k))) f len (k + 1) := by
  refine ⟨?_, there_setCell h.th, by simpa [World.setCell] using h.lt, h.bel.setCell (p := ⟨w.heap.size, k, none⟩) (Nat.le_refl _) _⟩
  intro j hj
  by_cases e : k = j
  · subst e
    have := (h.th k hk).1
    rw [Nat.zero_add] at this
    obtain ⟨u, hu⟩ := Option.isSome_iff_exists.1 this
    exact sc_eq hu
  · rw [sc_ne _ _ _ _ _ _ (Or.inr e)]; exact h.done j (by omega)

set_option maxHeartbeats 1000000 in
theorem cloneu_nil (w : World) : Calls Try.prog 18 #[.slice none 0 0] w fun e w' => e = .returned (.slice none 0 0) ∧ w' = w := by
  have hnil := Lib.run_eql_slice_nil (P := Try.prog) w 36 31 none 0 0 0 0 Try.underlying36
  go_enter Try.func18, Try.ntmps18
  go_wp2
  go_ret
  exact ⟨rfl, rfl⟩

set_option maxHeartbeats 1000000 in
set_option maxRecDepth 100000 in
theorem cloneu_any (xa : Addr) (g o n cap : Nat) (f : Nat → Int) (w : World) (hl : n ≤ 10000) (hx : 0 < n → xa = ⟨g, o, none⟩) (hc : ∀ k, k < n → w.cell? ⟨g, o + k, none⟩ = some (.int .u64 (f k))) (hg : 0 < n → g < w.heap.size) :
    Calls Try.prog 18 #[.slice (some xa) n cap] w fun e w' => e = .returned (.slice (some ⟨w.heap.size, 0, none⟩) n n) ∧ CU w w' f n n := by
  have hnil := Lib.run_eql_slice_nil (P := Try.prog) w 36 31 (some xa) n cap 0 0 Try.underlying36
  obtain ⟨x1, hmk, hth, hlt, hbl⟩ := make_k w 36 31 1 8 (.int .u64 0) Try.info31 Try.underlying36 n (by omega) (by omega)
  rw [Nat.mul_one] at hth
  have C0 : Hid (CU w x1 f n 0) := ⟨fun j hj => by omega, hth, hlt, hbl⟩
  have HC := hid hc
  have HG := hid hg
  have HX := hid hx
  clear hc hg hx hth hlt hbl
  go_enter Try.func18, Try.ntmps18
  go_wp2
  go_loopw [4] (fun k x => ∃ j : Nat, j ≤ n ∧ k = .int .i64 j ∧ Hid (CU w x f n j)) (fun k _ => n - (intOf k).toNat)
  case atStart => exact ⟨0, Nat.zero_le _, rfl, C0⟩
  case round =>
    obtain ⟨j, hj, rfl, H⟩ := hrel
    clear C0 hmk hnil
    by_cases hlt : j < n
    · have hxx := HX.out (by omega)
      subst hxx
      have hglt := HG.out (by omega)
      have e1 := (H.out.bel.cell (p := ⟨g, o + j, none⟩) hglt).trans (HC.out j hlt)
      have e2 := (H.out.th j hlt)
      rw [Nat.zero_add] at e2
      obtain ⟨u, hu⟩ := Option.isSome_iff_exists.1 e2.1
      have hf := e2.2
      have HN := hid (H.out.step hlt)
      have b0 : (0 : Int) ≤ (j : Int) := by omega
      have b1 : (j : Int) < (n : Int) := by omega
      clear e2 H
      go_wp2
      go_roundw
      case rel => exact ⟨j + 1, by omega, by go_num, HN⟩
      case measure => simp [intOf]; omega
    · have hjl : j = n := by omega
      subst hjl
      clear hj hlt
      go_wp2
      go_ret
      exact ⟨rfl, H.out⟩

def B17 (n : Nat) (w : World) (e : Ending) (w' : World) : Prop := ∃ b, e = .returned (.bool b) ∧ w' = w ∧ (n ≤ 4096 → b = true)

set_option maxHeartbeats 1000000 in
theorem bytes17 (a0 : Option Addr) (n cap0 : Nat) (w : World) (hn : n ≤ maxLen) :
    Calls Try.prog 17 #[.slice a0 n cap0] w fun e w' => B17 n w e w' := by
  unfold maxLen at hn
  by_cases h : n ≤ 1048576
  · have h1 : decide ((1048576 : Int) < (n : Int)) = false := by simp; omega
    have h2 : ¬ ((1048576 : Int) < (n : Int)) := by omega
    go_enter Try.func17, Try.ntmps17
    go_wp2_with fail
    go_ret
    exact ⟨true, rfl, rfl, fun _ => rfl⟩
  · have h1 : decide ((1048576 : Int) < (n : Int)) = true := by simp; omega
    have h2 : ((1048576 : Int) < (n : Int)) := by omega
    go_enter Try.func17, Try.ntmps17
    go_wp2_with fail
    go_ret
    exact ⟨false, rfl, rfl, fun _ => by omega⟩
end Go.Proofs.Qxb6604127a
