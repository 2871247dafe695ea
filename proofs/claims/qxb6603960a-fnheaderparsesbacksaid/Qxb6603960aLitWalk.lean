/-
  THE WALKS OF dgb1ExpectLit, at a text that bears the literal at i, and of dgb1Name.
-/
import Derived.Test.Qxb6603960aDecWalk
import Derived.Deep.QuietTactic
import Derived.BigQuiet
namespace Go.Proofs.Qxb6603960a
open Go.RowKit

theorem drop_pre {h : ByteArray} {i : Nat} {l post : List UInt8} (e : h.data.toList.drop i = l ++ post) (hi : i ≤ h.size) : i + l.length ≤ h.size ∧ (∀ k (hk : k < l.length) (hj : i + k < h.size), h[i + k] = l[k]) := by
  have hl := drop_len e
  simp only [List.length_append] at hl
  refine ⟨by omega, fun k hk hj => ?_⟩
  have : (h.data.toList.drop i)[k]? = (l ++ post)[k]? := by rw [e]
  rw [List.getElem?_drop, List.getElem?_append_left hk, List.getElem?_eq_getElem hk, List.getElem?_eq_getElem (by simpa using hj)] at this
  exact Option.some.inj this

theorem drewN_add (w : World) (n m : Nat) : (w.drewN n).drewN m = w.drewN (n + m) := by
  simp [World.drewN, Nat.add_assoc]

set_option maxHeartbeats 1000000 in
set_option maxRecDepth 100000 in
theorem lit_any (h lit : ByteArray) (i : Nat) (post : List UInt8) (w : World) (hh : h.data.toList.drop i = lit.data.toList ++ post) (hi : i ≤ h.size) (hsz : h.size ≤ 35184372088832) :
    Calls Try.prog 16 #[.string h, .int .i64 i, .string lit] w fun e w' => e = .returned (.tuple #[.int .i64 ((i + lit.size : Nat) : Int), .bool true]) ∧ ∃ n, w' = w.drewN n := by
  obtain ⟨hle, hby⟩ := drop_pre hh hi
  rw [← Lib.size_eq] at hle
  clear hh
  have hb : ∀ k (hk : k < lit.size) (hj : i + k < h.size), (h[i + k]).toNat = (lit[k]).toNat := fun k hk hj => by
    rw [hby k (by simpa using hk) hj]; rfl
  have Hb := hid hb
  clear hb hby
  have hd0 : decide ((i : Int) < 0) = false := by simp
  have hd1 : decide (h.size < i) = false := by simp; omega
  have hd2 : decide ((h.size : Int) - (i : Int) < (lit.size : Int)) = false := by simp; omega
  go_enter Try.func16, Try.ntmps16
  go_wp2
  go_loopw [8] (fun k wr => ∃ kn : Nat, kn ≤ lit.size ∧ k = .int .i64 kn ∧ ∃ n, wr = w.drewN n) (fun k _ => lit.size - (intOf k).toNat)
  case atStart => exact ⟨0, Nat.zero_le _, rfl, 0, rfl⟩
  case round =>
    obtain ⟨kn, hk, rfl, n, rfl⟩ := hrel
    by_cases hlt : kn < lit.size
    · have hj : i + kn < h.size := by omega
      have hbb := Hb.out kn hlt hj
      have ht : ((h[i + kn].toNat : Int) != (lit[kn].toNat : Int)) = false := by rw [hbb]; simp
      have hi1 : (i : Int) + (kn : Int) < (h.size : Int) := by omega
      have hi2 : (kn : Int) < (lit.size : Int) := by omega
      have hi0 : (0 : Int) ≤ (i : Int) + (kn : Int) := by omega
      have hwr : IntKind.i64.wrap ((i : Int) + (kn : Int)) = (i : Int) + (kn : Int) := by rw [IntKind.wrap_i64]; omega
      have htn : ((i : Int) + (kn : Int)).toNat = i + kn := by omega
      clear hbb
      go_wp2
      go_quiet (fail)
      go_wp2
      go_roundw
      case rel => exact ⟨kn + 1, by omega, by go_num, n + nq, rfl⟩
      case measure => simp [intOf]; omega
    · have hall : kn = lit.size := by omega
      subst hall
      clear hk
      go_wp2
      go_ret2
      exact ⟨rfl, n, rfl⟩
end Go.Proofs.Qxb6603960a
