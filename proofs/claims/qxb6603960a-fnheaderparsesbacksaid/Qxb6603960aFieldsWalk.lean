/-
  THE WALK OF (*Credentials).fields.
-/
import Derived.Test.Qxb6603960aLitWalk
import Derived.Test.Qxb6603960aPlain2
import Derived.Deep.RegionHeld3
namespace Go.Proofs.Qxb6603960a
open Go.RowKit

/-- The cells that fields lays. -/
def fcells (cb : Nat) : Array Value := #[.string ⟨#[117, 115, 101, 114, 110, 97, 109, 101]⟩, .pointer (some ⟨cb, 0, none⟩), .bool true, .bool true,
  .string ⟨#[114, 101, 97, 108, 109]⟩, .pointer (some ⟨cb, 1, none⟩), .bool true, .bool true,
  .string ⟨#[110, 111, 110, 99, 101]⟩, .pointer (some ⟨cb, 2, none⟩), .bool true, .bool true,
  .string ⟨#[117, 114, 105]⟩, .pointer (some ⟨cb, 3, none⟩), .bool true, .bool true,
  .string ⟨#[114, 101, 115, 112, 111, 110, 115, 101]⟩, .pointer (some ⟨cb, 4, none⟩), .bool true, .bool true,
  .string ⟨#[99, 110, 111, 110, 99, 101]⟩, .pointer (some ⟨cb, 8, none⟩), .bool true, .bool false,
  .string ⟨#[97, 108, 103, 111, 114, 105, 116, 104, 109]⟩, .pointer (some ⟨cb, 5, none⟩), .bool false, .bool false,
  .string ⟨#[113, 111, 112]⟩, .pointer (some ⟨cb, 6, none⟩), .bool false, .bool false,
  .string ⟨#[110, 99]⟩, .pointer (some ⟨cb, 7, none⟩), .bool false, .bool false]

/-- Where parameter k lies in Credentials. -/
def cidx : Nat → Nat
  | 0 => 0
  | 1 => 1
  | 2 => 2
  | 3 => 3
  | 4 => 4
  | 5 => 8
  | 6 => 5
  | 7 => 6
  | _ => 7

def nameB (k : Nat) : ByteArray := ⟨(Pl.name k).toArray⟩

theorem fcells_at (cb k : Nat) (hk : k < 9) : (fcells cb)[k * 4]? = some (.string (nameB k)) ∧ (fcells cb)[k * 4 + 1]? = some (.pointer (some ⟨cb, cidx k, none⟩)) ∧ (fcells cb)[k * 4 + 2]? = some (.bool (decide (k < 6))) ∧ (fcells cb)[k * 4 + 3]? = some (.bool (decide (k < 5))) := by
  rcases (by omega : k = 0 ∨ k = 1 ∨ k = 2 ∨ k = 3 ∨ k = 4 ∨ k = 5 ∨ k = 6 ∨ k = 7 ∨ k = 8) with rfl | rfl | rfl | rfl | rfl | rfl | rfl | rfl | rfl <;> exact ⟨rfl, rfl, rfl, rfl⟩

set_option maxHeartbeats 2000000 in
set_option maxRecDepth 100000 in
theorem fields_any (cb : Nat) (w : World) :
    Calls Try.prog 24 #[.pointer (some ⟨cb, 0, none⟩)] w fun e w' => e = .returned (.slice (some ⟨w.heap.size, 0, none⟩) 9 9) ∧ w' = (w.alloc (.cells (fcells cb) 53)).drew := by
  go_enter Try.func24, Try.ntmps24
  go_wp2
  go_region_held3 (fun _ => True) (trivial) (fail)
  all_goals go_wp2
  go_ret
  exact ⟨rfl, rfl⟩
end Go.Proofs.Qxb6603960a
