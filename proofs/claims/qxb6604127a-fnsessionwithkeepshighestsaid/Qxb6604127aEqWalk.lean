/-
  THE WALKS OF eqBytes, eqBytesString.
-/
import Derived.Test.Qxb6604127aAppWalk
import Derived.Deep.QuietTactic
import Derived.BigQuiet
namespace Go.Proofs.Qxb6604127a
open Go.RowKit

theorem drewN_add (w : World) (n m : Nat) : (w.drewN n).drewN m = w.drewN (n + m) := by
  simp [World.drewN, Nat.add_assoc]

set_option maxHeartbeats 1000000 in
set_option maxRecDepth 100000 in
theorem eq_any (g1 o1 c1 g2 o2 c2 n : Nat) (f : Nat → Int) (w : World) (hn : n ≤ 35184372088832) (h1 : ∀ j, j < n → w.cell? ⟨g1, o1 + j, none⟩ = some (.int .u8 (f j))) (h2 : ∀ j, j < n → w.cell? ⟨g2, o2 + j, none⟩ = some (.int .u8 (f j))) :
    Calls Try.prog 10 #[.slice (some ⟨g1, o1, none⟩) n c1, .slice (some ⟨g2, o2, none⟩) n c2] w fun e w' => e = .returned (.bool true) ∧ ∃ m, w' = w.drewN m := by
  have H1 := hid h1
  have H2 := hid h2
  clear h1 h2
  go_enter Try.func10, Try.ntmps10
  go_wp2
  go_loopw [5] (fun k wr => ∃ j : Nat, j ≤ n ∧ k = .int .i64 j ∧ ∃ m, wr = w.drewN m) (fun k _ => n - (intOf k).toNat)
  case atStart => exact ⟨0, Nat.zero_le _, rfl, 0, rfl⟩
  case round =>
    obtain ⟨j, hj, rfl, m, rfl⟩ := hrel
    by_cases hlt : j < n
    · have e1 := H1.out j hlt
      have e2 := H2.out j hlt
      have b0 : (0 : Int) ≤ (j : Int) := by omega
      have b1 : (j : Int) < (n : Int) := by omega
      go_wp2
      go_quiet (fail)
      go_wp2
      go_roundw
      case rel => exact ⟨j + 1, by omega, by go_num, _, rfl⟩
      case measure => simp [intOf]; omega
    · go_wp2
      go_ret
      exact ⟨rfl, m, rfl⟩

set_option maxHeartbeats 1000000 in
theorem eq_zero (a1 a2 : Option Addr) (c1 c2 : Nat) (w : World) :
    Calls Try.prog 10 #[.slice a1 0 c1, .slice a2 0 c2] w fun e w' => e = .returned (.bool true) ∧ ∃ m, w' = w.drewN m := by
  go_enter Try.func10, Try.ntmps10
  go_wp2
  go_loop [5] (fun k => k = .int .i64 0) (fun _ => 0)
  case atStart => rfl
  case round =>
    subst hrel
    go_wp2
    go_ret
    exact ⟨rfl, 0, rfl⟩

set_option maxHeartbeats 1000000 in
theorem bytes13 (a b : ByteArray) (w : World) (ha : a.size ≤ maxLen) (hb : b.size ≤ maxLen) :
    Calls Try.prog 13 #[.string a, .string b] w fun e w' => (e = .returned (.bool true) ∨ e = .returned (.bool false)) ∧ w' = w := by
  unfold maxLen at ha hb
  go_enter Try.func13, Try.ntmps13
  go_wp2
  all_goals
    go_ret
    first | exact ⟨Or.inl rfl, rfl⟩ | exact ⟨Or.inr rfl, rfl⟩
end Go.Proofs.Qxb6604127a
