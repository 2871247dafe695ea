/-
  THE WALKS OF hexVal, appendUTF8 (below 128), eqBytesString, cloneBytes.
-/
import Derived.Test.Qxb6604127aEqWalk
import Derived.Lib.Builder
import Derived.Laws.OwnMore
namespace Go.Proofs.Qxb6604127a
open Go.RowKit

set_option maxHeartbeats 2000000 in
theorem hex_any (d : Nat) (n : Int) (w : World) (hd : d < 16) (hn : n = ((Pl.hexL.getD d 0).toNat : Int)) :
    Calls Try.prog 22 #[.int .u8 n] w fun e w' => e = .returned (.tuple #[.int .u32 (d : Int), .bool true]) ∧ w' = w := by
  subst hn
  rcases (by omega : d = 0 ∨ d = 1 ∨ d = 2 ∨ d = 3 ∨ d = 4 ∨ d = 5 ∨ d = 6 ∨ d = 7 ∨ d = 8 ∨ d = 9 ∨ d = 10 ∨ d = 11 ∨ d = 12 ∨ d = 13 ∨ d = 14 ∨ d = 15) with rfl | rfl | rfl | rfl | rfl | rfl | rfl | rfl | rfl | rfl | rfl | rfl | rfl | rfl | rfl | rfl
  all_goals
    go_enter Try.func22, Try.ntmps22
    go_wp2
    go_ret2
    exact ⟨rfl, rfl⟩

set_option maxHeartbeats 1000000 in
theorem utf_any (w x : World) (v : Value) (l : List UInt8) (c : UInt8) (h : AS w x v [] l) (hc : c.toNat < 128) (hb : l.length + 1 ≤ 35184372088832) :
    Calls Try.prog 23 #[v, .int .u32 (c.toNat : Int)] x fun e x' => ∃ v', e = .returned v' ∧ AS w x' v' [] (l ++ [c]) := by
  obtain ⟨i0, hi, hz0, hz1, hz2⟩ := info_parts Try.info5
  have H := hid h
  clear h
  have hc' : (c.toNat : Int) < 128 := by omega
  go_enter Try.func23, Try.ntmps23
  go_wp2_with (at_builtin; refine wpList_append_own _ rfl (.tmp 7) (.tmp 10) 22 rfl w.heap.size 5 i0 (.int .u8 0) 1 1 Try.underlying22 hi hz0 hz1 hz2 rfl (by decide) _ _ _ rfl (H.out.own.alloc _) ⟨x.heap.size, 0, none⟩ 1 1 [.int .u8 (c.toNat : Int)] rfl rfl (cell_one_new _ _ _) (fun x hx => by simp at hx; subst hx; rfl) ?d2 ?d3 ?d4 ?_)
  case d2 => simp only [List.length_nil]; unfold maxLen; omega
  case d3 => simp only [List.length_nil]; omega
  case d4 => have := H.out.bel.size; simp; omega
  intro v3 x3 hown3 hg3 _
  have A3 : AS w x3 v3 [] (l ++ [c]) := H.out.step ((Below.refl _ _).alloc H.out.bel.size _) (by have := H.out.bel.size; simp; omega) hown3 hg3 (by simp) (by simp [Lib.byteCells])
  have HA3 := hid A3
  clear A3 hown3 hg3
  go_wp2
  go_ret
  exact ⟨_, rfl, HA3.out⟩

set_option maxHeartbeats 1000000 in
set_option maxRecDepth 100000 in
theorem eqs_any (g1 o1 c1 : Nat) (s : ByteArray) (w : World) (hn : s.size ≤ 35184372088832) (h1 : ∀ j (hj : j < s.size), w.cell? ⟨g1, o1 + j, none⟩ = some (.int .u8 (s[j].toNat : Int))) :
    Calls Try.prog 12 #[.slice (some ⟨g1, o1, none⟩) s.size c1, .string s] w fun e w' => e = .returned (.bool true) ∧ ∃ m, w' = w.drewN m := by
  have H1 := hid h1
  clear h1
  go_enter Try.func12, Try.ntmps12
  go_wp2
  go_loopw [5] (fun k wr => ∃ j : Nat, j ≤ s.size ∧ k = .int .i64 j ∧ ∃ m, wr = w.drewN m) (fun k _ => s.size - (intOf k).toNat)
  case atStart => exact ⟨0, Nat.zero_le _, rfl, 0, rfl⟩
  case round =>
    obtain ⟨j, hj, rfl, m, rfl⟩ := hrel
    by_cases hlt : j < s.size
    · have e1 := H1.out j hlt
      have b0 : (0 : Int) ≤ (j : Int) := by omega
      have b1 : (j : Int) < (s.size : Int) := by omega
      go_wp2
      go_quiet (fail)
      go_wp2
      go_roundw
      case rel => exact ⟨j + 1, by omega, by go_num, _, rfl⟩
      case measure => simp [intOf]; omega
    · go_wp2
      go_ret
      exact ⟨rfl, m, rfl⟩

end Go.Proofs.Qxb6604127a
