/-
  THE WALKS OF dgb1IsTchar, dgb1IsToken, dgb1Index.
-/
import Derived.Test.Qxb6603960aHeaderFacts
namespace Go.Proofs.Qxb6603960a
open Go.RowKit

/-- A byte of a token. -/
def tch (n : Nat) : Bool := decide (48 ≤ n ∧ n ≤ 57 ∨ 97 ≤ n ∧ n ≤ 122 ∨ 65 ≤ n ∧ n ≤ 90 ∨ n = 33 ∨ n = 35 ∨ n = 36 ∨ n = 37 ∨ n = 38 ∨ n = 39 ∨ n = 42 ∨ n = 43 ∨ n = 45 ∨ n = 46 ∨ n = 94 ∨ n = 95 ∨ n = 96 ∨ n = 124 ∨ n = 126)

theorem tch_yes {n : Nat} (h : 48 ≤ n ∧ n ≤ 57 ∨ 97 ≤ n ∧ n ≤ 122 ∨ 65 ≤ n ∧ n ≤ 90 ∨ n = 33 ∨ n = 35 ∨ n = 36 ∨ n = 37 ∨ n = 38 ∨ n = 39 ∨ n = 42 ∨ n = 43 ∨ n = 45 ∨ n = 46 ∨ n = 94 ∨ n = 95 ∨ n = 96 ∨ n = 124 ∨ n = 126) : tch n = true := decide_eq_true h

theorem tch_no {n : Nat} (h : ¬ (48 ≤ n ∧ n ≤ 57 ∨ 97 ≤ n ∧ n ≤ 122 ∨ 65 ≤ n ∧ n ≤ 90 ∨ n = 33 ∨ n = 35 ∨ n = 36 ∨ n = 37 ∨ n = 38 ∨ n = 39 ∨ n = 42 ∨ n = 43 ∨ n = 45 ∨ n = 46 ∨ n = 94 ∨ n = 95 ∨ n = 96 ∨ n = 124 ∨ n = 126)) : tch n = false := decide_eq_false h

theorem ret_b {a b : Bool} (h : a = b) : Ending.returned (.bool a) = .returned (.bool b) := by rw [h]

set_option maxHeartbeats 2000000 in
set_option maxRecDepth 100000 in
theorem tch_any (n : Nat) (w : World) (hn : n < 256) :
    Calls Try.prog 20 #[.int .u8 n] w fun e w' => e = .returned (.bool (tch n)) ∧ w' = w := by
  go_enter Try.func20, Try.ntmps20
  go_wp2
  all_goals
    go_ret
    first
      | exact ⟨ret_b (tch_yes (by omega)).symm, rfl⟩
      | exact ⟨ret_b (tch_no (by simp only [beq_eq_false_iff_ne, ne_eq] at *; omega)).symm, rfl⟩
      | exact ⟨ret_b (tch_yes (by simp only [beq_iff_eq] at *; omega)).symm, rfl⟩

/-- All of a token. -/
def tok (l : List UInt8) : Bool := l.all fun c => tch c.toNat

theorem tok_append (a b : List UInt8) : tok (a ++ b) = (tok a && tok b) := by simp [tok]

theorem tok_snoc (l : List UInt8) (c : UInt8) : tok (l ++ [c]) = (tok l && tch c.toNat) := by simp [tok]

set_option maxHeartbeats 2000000 in
theorem tok_any (s : ByteArray) (w : World) (hs : s.size ≤ maxLen) :
    Calls Try.prog 19 #[.string s] w fun e w' => e = .returned (.bool (tok s.data.toList)) ∧ w' = w := by
  unfold maxLen at hs
  go_enter Try.func19, Try.ntmps19
  go_wp2
  go_loop [3] (fun i => ∃ k : Nat, k ≤ s.size ∧ i = .int .i64 k ∧ Hid (tok (s.data.toList.take k) = true)) (fun i => s.size - (intOf i).toNat)
  case atStart => exact ⟨0, Nat.zero_le _, rfl, hid rfl⟩
  case round =>
    obtain ⟨k, hk, rfl, HT⟩ := hrel
    by_cases hlt : k < s.size
    · have hts := take_snoc s k hlt
      have hsn := tok_snoc (s.data.toList.take k) s[k]
      rw [← hts] at hsn
      have HS := hid hsn
      have hb : s[k].toNat < 256 := s[k].toNat_lt
      clear hts hsn
      go_wp2_with fail
      have H := tch_any s[k].toNat w hb
      refine H.mono ?_
      rintro e w' ⟨rfl, rfl⟩
      clear H
      by_cases ht : tch s[k].toNat = true
      · rw [ht]
        go_wp2
        go_round
        case rel => exact ⟨k + 1, by omega, by go_num, hid (by rw [HS.out, HT.out, ht]; rfl)⟩
        case measure => simp [intOf]; omega
      · have hf : tch s[k].toNat = false := by simpa using ht
        rw [hf]
        go_wp2
        go_ret
        refine ⟨ret_b ?_, rfl⟩
        have hl : s.data.toList = s.data.toList.take (k + 1) ++ s.data.toList.drop (k + 1) := (List.take_append_drop _ _).symm
        rw [hl]
        rw [tok_append, HS.out, hf]; simp
    · go_wp2
      go_ret
      refine ⟨ret_b ?_, rfl⟩
      have := HT.out
      rw [List.take_of_length_le (by simp; omega)] at this
      exact this.symm

theorem names_ne (j k : Nat) (hk : k < 9) (hj : j < k) : (nameB j).toList ≠ (nameB k).toList := by
  rw [Lib.toList_data, Lib.toList_data]
  show Pl.name j ≠ Pl.name k
  rcases (by omega : k = 0 ∨ k = 1 ∨ k = 2 ∨ k = 3 ∨ k = 4 ∨ k = 5 ∨ k = 6 ∨ k = 7 ∨ k = 8) with rfl | rfl | rfl | rfl | rfl | rfl | rfl | rfl | rfl <;>
    rcases (by omega : j = 0 ∨ j = 1 ∨ j = 2 ∨ j = 3 ∨ j = 4 ∨ j = 5 ∨ j = 6 ∨ j = 7) with rfl | rfl | rfl | rfl | rfl | rfl | rfl | rfl <;> first | decide | omega

set_option maxHeartbeats 2000000 in
theorem index_any (k : Nat) (t : ByteArray) (w : World) (hk : k < 9) (ht : t = nameB k) :
    Calls Try.prog 21 #[.string t] w fun e w' => e = .returned (.int .i64 k) ∧ w' = w := by
  subst ht
  go_enter Try.func21, Try.ntmps21
  go_wp2
  go_loop [3] (fun i => ∃ j : Nat, j ≤ k ∧ i = .int .i64 j) (fun i => 9 - (intOf i).toNat)
  case atStart => exact ⟨0, Nat.zero_le _, rfl⟩
  case round =>
    obtain ⟨j, hj, rfl⟩ := hrel
    have hj9 : j < 9 := by omega
    have hj9' : (j : Int) < 9 := by omega
    by_cases hlt : j < k
    · have hne : ((nameB j).toList == (nameB k).toList) = false := by rw [beq_eq_false_iff_ne]; exact names_ne j k hk hlt
      go_wp2_with fail
      refine (name_any j _ hj9).mono ?_
      rintro e w' ⟨rfl, rfl⟩
      go_wp2
      go_round
      case rel => exact ⟨j + 1, by omega, by go_num⟩
      case measure => simp [intOf]; omega
    · obtain rfl : j = k := by omega
      clear hlt hj
      go_wp2_with fail
      refine (name_any j _ hj9).mono ?_
      rintro e w' ⟨rfl, rfl⟩
      go_wp2
      go_ret
      exact ⟨rfl, rfl⟩
end Go.Proofs.Qxb6603960a
