/-
  THE WALK OF FnHeaderParsesBack.
-/
import Derived.Test.Qxb6603960aParseFacts
import Derived.Deep.QuietTactic
import Derived.BigQuiet
namespace Go.Proofs.Qxb6603960a
open Go.RowKit

set_option maxHeartbeats 2000000 in
set_option maxRecDepth 100000 in
theorem parse_long (a0 a1 a2 a3 a4 a5 a6 a7 a8 : ByteArray) (w0 : a0.size ≤ maxLen) (w1 : a1.size ≤ maxLen) (w2 : a2.size ≤ maxLen) (w3 : a3.size ≤ maxLen) (w4 : a4.size ≤ maxLen) (w5 : a5.size ≤ maxLen) (w6 : a6.size ≤ maxLen) (w7 : a7.size ≤ maxLen) (w8 : a8.size ≤ maxLen) (w : World)
    (hs : ¬ (a0.size ≤ 65536 ∧ a1.size ≤ 65536 ∧ a2.size ≤ 65536 ∧ a3.size ≤ 65536 ∧ a4.size ≤ 65536 ∧ a5.size ≤ 65536 ∧ a6.size ≤ 65536 ∧ a7.size ≤ 65536 ∧ a8.size ≤ 65536)) :
    Calls Try.prog 6 #[.string a0, .string a1, .string a2, .string a3, .string a4, .string a5, .string a6, .string a7, .string a8] w fun e w' => e = .returned (.bool true) ∧ Below w.heap.size w w' := by
  have HB := bytes18 a0 a1 a2 a3 a4 a5 a6 a7 a8 w w0 w1 w2 w3 w4 w5 w6 w7 w8
  have HB := hid HB
  have HS := hid hs
  clear hs
  unfold maxLen at w0 w1 w2 w3 w4 w5 w6 w7 w8
  go_enter Try.func6, Try.ntmps6
  go_wp2_with (go_at_call 18; refine HB.out.mono ?_)
  rintro e w' ⟨rfl | rfl, rfl⟩
  · go_wp2_with fail
    rotate_left 9
    · exact absurd (by refine ⟨?_, ?_, ?_, ?_, ?_, ?_, ?_, ?_, ?_⟩ <;> omega) HS.out
    all_goals
      go_ret
      exact ⟨rfl, Below.refl _ _⟩
  · go_wp2
    go_ret
    exact ⟨rfl, Below.refl _ _⟩

/-- A text that is no token: the law lets it pass. -/
theorem tok_cases (s : ByteArray) (w : World) (hs : s.size ≤ 65536) : Calls Try.prog 19 #[.string s] w fun e w' => e = .returned (.bool (tok s.data.toList)) ∧ w' = w :=
  tok_any s w (by unfold maxLen; omega)

set_option maxHeartbeats 4000000 in
set_option maxRecDepth 100000 in
theorem parse_notok (a0 a1 a2 a3 a4 a5 a6 a7 a8 : ByteArray) (w : World) (hb : Calls Try.prog 18 #[.string a0, .string a1, .string a2, .string a3, .string a4, .string a5, .string a6, .string a7, .string a8] w fun e w' => (e = .returned (.bool true) ∨ e = .returned (.bool false)) ∧ w' = w)
    (s0 : a0.size ≤ 65536) (s1 : a1.size ≤ 65536) (s2 : a2.size ≤ 65536) (s3 : a3.size ≤ 65536) (s4 : a4.size ≤ 65536) (s5 : a5.size ≤ 65536) (s6 : a6.size ≤ 65536) (s7 : a7.size ≤ 65536) (s8 : a8.size ≤ 65536)
    (hs : ¬ (tok a5.data.toList = true ∧ tok a6.data.toList = true ∧ tok a7.data.toList = true)) :
    Calls Try.prog 6 #[.string a0, .string a1, .string a2, .string a3, .string a4, .string a5, .string a6, .string a7, .string a8] w fun e w' => e = .returned (.bool true) ∧ Below w.heap.size w w' := by
  have HB := hid hb
  have HS := hid hs
  have T5 := hid (tok_cases a5 w s5)
  have T6 := hid (tok_cases a6 w s6)
  have T7 := hid (tok_cases a7 w s7)
  clear hs hb
  go_enter Try.func6, Try.ntmps6
  go_wp2_with (go_at_call 18; refine HB.out.mono ?_)
  rintro e w' ⟨rfl | rfl, rfl⟩
  · cases h5 : tok a5.data.toList with
    | false =>
      rw [h5] at T5
      go_wp2_with fail
      refine T5.out.mono ?_
      rintro e w1 ⟨rfl, rfl⟩
      go_wp2
      go_ret
      exact ⟨rfl, Below.refl _ _⟩
    | true =>
      rw [h5] at T5
      cases h6 : tok a6.data.toList with
      | false =>
        rw [h6] at T6
        go_wp2_with fail
        refine T5.out.mono ?_
        rintro e w1 ⟨rfl, rfl⟩
        go_wp2_with fail
        refine T6.out.mono ?_
        rintro e w1 ⟨rfl, rfl⟩
        go_wp2
        go_ret
        exact ⟨rfl, Below.refl _ _⟩
      | true =>
        rw [h6] at T6
        have h7 : tok a7.data.toList = false := by
          cases h7 : tok a7.data.toList with
          | false => rfl
          | true => exact absurd ⟨h5, h6, h7⟩ HS.out
        rw [h7] at T7
        go_wp2_with fail
        refine T5.out.mono ?_
        rintro e w1 ⟨rfl, rfl⟩
        go_wp2_with fail
        refine T6.out.mono ?_
        rintro e w1 ⟨rfl, rfl⟩
        go_wp2_with fail
        refine T7.out.mono ?_
        rintro e w1 ⟨rfl, rfl⟩
        go_wp2
        go_ret
        exact ⟨rfl, Below.refl _ _⟩
  · go_wp2
    go_ret
    exact ⟨rfl, Below.refl _ _⟩
end Go.Proofs.Qxb6603960a
