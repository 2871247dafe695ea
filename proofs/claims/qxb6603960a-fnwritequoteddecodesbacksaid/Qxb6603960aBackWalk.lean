/-
  THE WALK OF FnWriteQuotedDecodesBack.
-/
import Derived.Test.Qxb6603960aDecWalk
import Derived.Deep.QuietTactic
import Derived.BigQuiet
namespace Go.Proofs.Qxb6603960a
open Go.RowKit

theorem ret_bool {a b : Bool} (h : a = b) : Ending.returned (.bool a) = .returned (.bool b) := by rw [h]

set_option maxHeartbeats 1000000 in
theorem bytes7 (a b : ByteArray) (w : World) (ha : a.size ≤ maxLen) (hb : b.size ≤ maxLen) :
    Calls Try.prog 7 #[.string a, .string b] w fun e w' => (e = .returned (.bool true) ∨ e = .returned (.bool false)) ∧ w' = w := by
  unfold maxLen at ha hb
  by_cases h1 : 1048576 < a.size
  · go_enter Try.func7, Try.ntmps7
    go_wp2
    go_ret
    exact ⟨Or.inr rfl, rfl⟩
  · by_cases h2 : 1048576 < b.size
    · go_enter Try.func7, Try.ntmps7
      go_wp2
      go_ret
      exact ⟨Or.inr rfl, rfl⟩
    · by_cases h3 : 1048576 < a.size + b.size
      · go_enter Try.func7, Try.ntmps7
        go_wp2
        go_ret
        exact ⟨Or.inr rfl, rfl⟩
      · go_enter Try.func7, Try.ntmps7
        go_wp2
        go_ret
        exact ⟨Or.inl rfl, rfl⟩

theorem dec0 (h t : ByteArray) (w : World) (hh : h.data.toList = Pl.quote t.data.toList) (hsz : h.size ≤ 35184372088832) :
    Calls Try.prog 11 #[.string h, .int .i64 0] w fun e w' => e = .returned (.tuple #[.string t, .int .i64 (h.size : Int), .bool true]) ∧ Below w.heap.size w w' := by
  have hs : 0 + (Pl.quote t.data.toList).length = h.size := by rw [← hh]; simp
  have := dec_any h 0 t.data.toList [] w (by simpa using hh) hsz
  rw [hs, Lib.mk_data] at this
  exact this

/-- The two texts one behind the other. -/
def outB (a : ByteArray) (s : ByteArray) : ByteArray := ⟨(a.data.toList ++ Pl.quote s.data.toList).toArray⟩

theorem outB_facts (a s : ByteArray) : (outB a s).size = a.size + (Pl.quote s.data.toList).length ∧ ((outB a s).extract 0 a.size).toList = a.toList ∧ ((outB a s).extract a.size (outB a s).size).data.toList = Pl.quote s.data.toList := by
  have e : (outB a s).data.toList = a.data.toList ++ Pl.quote s.data.toList := rfl
  have z : (outB a s).size = a.size + (Pl.quote s.data.toList).length := by rw [Lib.size_eq, e, List.length_append, ← Lib.size_eq]
  refine ⟨z, ?_, ?_⟩
  · rw [Lib.extract_toList, e, Lib.toList_data, List.drop_zero, Nat.sub_zero, Lib.size_eq a, List.take_left]
  · rw [Lib.extract_data, e, z, Lib.size_eq a, List.drop_left, Nat.add_sub_cancel_left, List.take_length]

/-- String(), the text under a name of its own. -/
theorem string_as (B b : Nat) (O : ByteArray) (l : List UInt8) (w : World) (hO : O.data.toList = l) (h : Lib.IsBuilderF 26 5 B b (Lib.byteCells l) w) (hBw : B ≤ w.heap.size) :
    Calls Try.prog 10 #[.pointer (some ⟨b, 0, none⟩)] w fun e w' => e = .returned (.string O) ∧ Below B w w' := by
  refine (Try.Builder_String_any_k B b l w h hBw).mono ?_
  rintro e w' ⟨rfl, _, hb, _⟩
  refine ⟨?_, hb⟩
  subst hO
  rw [Lib.mk_data]

set_option maxHeartbeats 1000000 in
set_option maxRecDepth 100000 in
theorem back_walk (a0 a1 : ByteArray) (w0 : a0.size ≤ maxLen) (w1 : a1.size ≤ maxLen) (w : World) :
    Calls Try.prog 3 #[.string a0, .string a1] w fun e w' => e = .returned (.bool true) ∧ Below w.heap.size w w' := by
  have hm0 := w0
  have hm1 := w1
  unfold maxLen at w0 w1
  by_cases h0 : 65536 < a0.size
  · go_enter Try.func3, Try.ntmps3
    go_wp2_with (go_at_call 7; refine (bytes7 _ _ _ hm0 hm1).mono ?_)
    rintro e w' ⟨rfl | rfl, rfl⟩
    all_goals
      go_wp2
      go_ret
      exact ⟨rfl, Below.refl _ _⟩
  by_cases h1 : 65536 < a1.size
  · go_enter Try.func3, Try.ntmps3
    go_wp2_with (go_at_call 7; refine (bytes7 _ _ _ hm0 hm1).mono ?_)
    rintro e w' ⟨rfl | rfl, rfl⟩
    all_goals
      go_wp2
      go_ret
      exact ⟨rfl, Below.refl _ _⟩
  go_enter Try.func3, Try.ntmps3
  go_wp2_with (go_at_call 7; refine (bytes7 _ _ _ hm0 hm1).mono ?_)
  rintro e w' ⟨rfl | rfl, rfl⟩
  · go_wp2_with (go_at_call 8; refine (Try.Builder_WriteString_k w'.heap.size w'.heap.size [] a0 _ (Lib.IsBuilderF.of (Lib.fresh_isBuilder 26 5 w')) (by simp; omega) (by simp)).mono ?_)
    rintro e x1 ⟨rfl, h2, b2, k2⟩
    have g2 : Lib.IsBuilderF 26 5 w'.heap.size w'.heap.size (Lib.byteCells a0.data.toList) x1 := Or.inr h2
    have z2 : w'.heap.size ≤ x1.heap.size := Nat.le_trans (by simp) b2.size
    clear h2
    go_wp2_with (go_at_call 9; refine (zzwq_any w'.heap.size w'.heap.size a0.data.toList a1 _ g2 (by rw [← Lib.size_eq]; omega) z2).mono ?_)
    rintro e x2 ⟨rfl, g3, b3, k3⟩
    have z3 : w'.heap.size ≤ x2.heap.size := Nat.le_trans z2 b3.size
    obtain ⟨O, hO⟩ : ∃ O, O = outB a0 a1 := ⟨_, rfl⟩
    have HO : Hid (O.data.toList = a0.data.toList ++ Pl.quote a1.data.toList) := hid (by rw [hO]; rfl)
    obtain ⟨f1, f2, f3⟩ := outB_facts a0 a1
    have ql := Pl.quote_len a1.data.toList
    rw [← Lib.size_eq] at ql
    rw [← hO] at f1 f2 f3
    clear hO
    have z4 : a0.size ≤ O.size := by omega
    have z5 : O.size ≤ 35184372088832 := by omega
    have F2 : ((O.extract 0 a0.size).toList == a0.toList) = true := by rw [f2]; exact beq_self_eq_true _
    have F3 := hid f3
    clear f1 f2 f3 ql
    go_wp2_with (go_at_call 10; refine (string_as w'.heap.size w'.heap.size O _ _ HO.out g3 z3).mono ?_)
    rintro e x3 ⟨rfl, b4⟩
    have bb : Below w'.heap.size w' x3 := (((Below.refl _ w').alloc (Nat.le_refl _) _).trans b2).trans (b3.trans b4)
    go_wp2_with (go_at_call 11; refine (dec0 _ a1 _ F3.out (by simp; omega)).mono ?_)
    rintro e x4 ⟨rfl, b5⟩
    go_wp2
    go_ret
    exact ⟨ret_bool (by simp), bb.trans (b5.mono bb.size)⟩
  · go_wp2
    go_ret
    exact ⟨rfl, Below.refl _ _⟩
end Go.Proofs.Qxb6603960a
