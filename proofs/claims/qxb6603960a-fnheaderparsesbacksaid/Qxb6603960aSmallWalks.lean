/-
  THE WALKS OF dgb1Name and of the two byte bounds over nine strings.
-/
import Derived.Test.Qxb6603960aFieldsWalk
namespace Go.Proofs.Qxb6603960a
open Go.RowKit

set_option maxHeartbeats 2000000 in
theorem name_any (k : Nat) (w : World) (hk : k < 9) :
    Calls Try.prog 17 #[.int .i64 k] w fun e w' => e = .returned (.string (nameB k)) ∧ w' = w := by
  rcases (by omega : k = 0 ∨ k = 1 ∨ k = 2 ∨ k = 3 ∨ k = 4 ∨ k = 5 ∨ k = 6 ∨ k = 7 ∨ k = 8) with rfl | rfl | rfl | rfl | rfl | rfl | rfl | rfl | rfl
  all_goals
    go_enter Try.func17, Try.ntmps17
    go_wp2
    go_ret
    exact ⟨rfl, rfl⟩

set_option maxHeartbeats 4000000 in
set_option maxRecDepth 100000 in
theorem bytes14 (a0 a1 a2 a3 a4 a5 a6 a7 a8 : ByteArray) (w : World) (h0 : a0.size ≤ maxLen) (h1 : a1.size ≤ maxLen) (h2 : a2.size ≤ maxLen) (h3 : a3.size ≤ maxLen) (h4 : a4.size ≤ maxLen) (h5 : a5.size ≤ maxLen) (h6 : a6.size ≤ maxLen) (h7 : a7.size ≤ maxLen) (h8 : a8.size ≤ maxLen) :
    Calls Try.prog 14 #[.string a0, .string a1, .string a2, .string a3, .string a4, .string a5, .string a6, .string a7, .string a8] w fun e w' => (e = .returned (.bool true) ∨ e = .returned (.bool false)) ∧ w' = w := by
  unfold maxLen at *
  go_enter Try.func14, Try.ntmps14
  go_wp2
  all_goals
    go_ret
    first | exact ⟨Or.inl rfl, rfl⟩ | exact ⟨Or.inr rfl, rfl⟩

set_option maxHeartbeats 4000000 in
set_option maxRecDepth 100000 in
theorem bytes18 (a0 a1 a2 a3 a4 a5 a6 a7 a8 : ByteArray) (w : World) (h0 : a0.size ≤ maxLen) (h1 : a1.size ≤ maxLen) (h2 : a2.size ≤ maxLen) (h3 : a3.size ≤ maxLen) (h4 : a4.size ≤ maxLen) (h5 : a5.size ≤ maxLen) (h6 : a6.size ≤ maxLen) (h7 : a7.size ≤ maxLen) (h8 : a8.size ≤ maxLen) :
    Calls Try.prog 18 #[.string a0, .string a1, .string a2, .string a3, .string a4, .string a5, .string a6, .string a7, .string a8] w fun e w' => (e = .returned (.bool true) ∨ e = .returned (.bool false)) ∧ w' = w := by
  unfold maxLen at *
  go_enter Try.func18, Try.ntmps18
  go_wp2
  all_goals
    go_ret
    first | exact ⟨Or.inl rfl, rfl⟩ | exact ⟨Or.inr rfl, rfl⟩
end Go.Proofs.Qxb6603960a
