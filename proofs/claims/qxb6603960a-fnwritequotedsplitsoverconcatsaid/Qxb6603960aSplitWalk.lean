/-
  THE WALK OF FnWriteQuotedSplitsOverConcat.
-/
import Derived.Test.Qxb6603960aWalks1
import Derived.Deep.QuietTactic
import Derived.BigQuiet
namespace Go.Proofs.Qxb6603960a
open Go.RowKit

theorem ret_bool {a b : Bool} (h : a = b) : Ending.returned (.bool a) = .returned (.bool b) := by rw [h]

set_option maxHeartbeats 1000000 in
theorem bytes12 (a b : ByteArray) (w : World) (ha : a.size ≤ maxLen) (hb : b.size ≤ maxLen) :
    Calls Try.prog 12 #[.string a, .string b] w fun e w' => (e = .returned (.bool true) ∨ e = .returned (.bool false)) ∧ w' = w := by
  unfold maxLen at ha hb
  by_cases h1 : 1048576 < a.size
  · go_enter Try.func12, Try.ntmps12
    go_wp2
    go_ret
    exact ⟨Or.inr rfl, rfl⟩
  · by_cases h2 : 1048576 < b.size
    · go_enter Try.func12, Try.ntmps12
      go_wp2
      go_ret
      exact ⟨Or.inr rfl, rfl⟩
    · by_cases h3 : 1048576 < a.size + b.size
      · go_enter Try.func12, Try.ntmps12
        go_wp2
        go_ret
        exact ⟨Or.inr rfl, rfl⟩
      · go_enter Try.func12, Try.ntmps12
        go_wp2
        go_ret
        exact ⟨Or.inl rfl, rfl⟩

theorem quote_empty (w : World) : Calls Try.prog 13 #[.string ⟨#[]⟩] w fun e w' => e = .returned (.string ⟨#[34, 34]⟩) ∧ Below w.heap.size w w' :=
  quote_any ⟨#[]⟩ w (by decide)

theorem quoteB_size (s : ByteArray) : s.size + 2 ≤ (quoteB s).size ∧ (quoteB s).size ≤ 2 * s.size + 2 := by
  have h := Pl.quote_len s.data.toList
  have e : (quoteB s).size = (Pl.quote s.data.toList).length := by simp [quoteB, ByteArray.size]
  have e2 : s.data.toList.length = s.size := by simp
  omega

theorem quoteB_law (a b : ByteArray) : quoteB (a ++ b) = (quoteB a).extract 0 ((quoteB a).size - 1) ++ (quoteB b).extract 1 (quoteB b).size := by
  have h := Pl.quote_append a.data.toList b.data.toList
  apply ByteArray.ext
  apply Array.ext'
  have e : (quoteB a).size = (Pl.quote a.data.toList).length := by simp [quoteB, ByteArray.size]
  have e2 : (quoteB b).size = (Pl.quote b.data.toList).length := by simp [quoteB, ByteArray.size]
  rw [e, e2, ByteArray.data_append, Array.toList_append, Lib.extract_data, Lib.extract_data]
  have t : (Pl.quote b.data.toList).length - 1 = ((Pl.quote b.data.toList).drop 1).length := by simp
  have u : (quoteB (a ++ b)).data.toList = Pl.quote (a.data.toList ++ b.data.toList) := by simp [quoteB, ByteArray.data_append]
  have va : (quoteB a).data.toList = Pl.quote a.data.toList := rfl
  have vb : (quoteB b).data.toList = Pl.quote b.data.toList := rfl
  rw [u, h, va, vb, t, List.take_length, List.drop_zero, Nat.sub_zero]

theorem quote_law (a b : ByteArray) : ((quoteB (a ++ b)).toList == ((quoteB a).extract 0 ((quoteB a).size - 1) ++ (quoteB b).extract 1 (quoteB b).size).toList) = true := by
  rw [quoteB_law]; exact beq_self_eq_true _

set_option maxHeartbeats 1000000 in
theorem split_walk (a0 a1 : ByteArray) (w0 : a0.size ≤ maxLen) (w1 : a1.size ≤ maxLen) (w : World) :
    Calls Try.prog 4 #[.string a0, .string a1] w fun e w' => e = .returned (.bool true) ∧ Below w.heap.size w w' := by
  have hm0 := w0
  have hm1 := w1
  unfold maxLen at w0 w1
  by_cases h0 : 65536 < a0.size
  · go_enter Try.func4, Try.ntmps4
    go_wp2_with (go_at_call 12; refine (bytes12 _ _ _ hm0 hm1).mono ?_)
    rintro e w' ⟨rfl | rfl, rfl⟩
    all_goals
      go_wp2
      go_ret
      exact ⟨rfl, Below.refl _ _⟩
  by_cases h1 : 65536 < a1.size
  · go_enter Try.func4, Try.ntmps4
    go_wp2_with (go_at_call 12; refine (bytes12 _ _ _ hm0 hm1).mono ?_)
    rintro e w' ⟨rfl | rfl, rfl⟩
    all_goals
      go_wp2
      go_ret
      exact ⟨rfl, Below.refl _ _⟩
  go_enter Try.func4, Try.ntmps4
  go_wp2_with (go_at_call 12; refine (bytes12 _ _ _ hm0 hm1).mono ?_)
  rintro e w' ⟨rfl | rfl, rfl⟩
  · go_wp2_with (go_at_call 13; refine (quote_empty _).mono ?_)
    rintro e x1 ⟨rfl, b1⟩
    go_wp2_with (go_at_call 13; refine (quote_any a0 _ (by omega)).mono ?_)
    rintro e x2 ⟨rfl, b2⟩
    go_wp2_with (go_at_call 13; refine (quote_any a1 _ (by omega)).mono ?_)
    rintro e x3 ⟨rfl, b3⟩
    go_wp2_with (go_at_call 13; refine (quote_any _ _ (by simp; omega)).mono ?_)
    rintro e x4 ⟨rfl, b4⟩
    have ok := hid (quote_law a0 a1)
    have q0 := quoteB_size a0
    have q1 := quoteB_size a1
    go_wp2
    go_quiet (fail)
    go_wp2
    go_ret
    exact ⟨ret_bool ok.out, below_drewN (((b1.trans (b2.mono b1.size)).trans (b3.mono (Nat.le_trans b1.size b2.size))).trans (b4.mono (Nat.le_trans b1.size (Nat.le_trans b2.size b3.size)))) nq⟩
  · go_wp2
    go_ret
    exact ⟨rfl, Below.refl _ _⟩
end Go.Proofs.Qxb6603960a
