/-
  WHAT THE TWO LAWS OVER THE HEADER SHARE.
-/
import Derived.Test.Qxb6603960aHeaderWalk
import Derived.Test.Qxb6603960aSmallWalks
namespace Go.Proofs.Qxb6603960a
open Go.RowKit

/-- The nine values in the header's order. -/
def VV (a0 a1 a2 a3 a4 a5 a6 a7 a8 : ByteArray) : Nat → ByteArray
  | 0 => a0
  | 1 => a1
  | 2 => a2
  | 3 => a3
  | 4 => a4
  | 5 => a8
  | 6 => a5
  | 7 => a6
  | 8 => a7
  | _ => ⟨#[]⟩

theorem nine {p : Nat → Prop} (h0 : p 0) (h1 : p 1) (h2 : p 2) (h3 : p 3) (h4 : p 4) (h5 : p 5) (h6 : p 6) (h7 : p 7) (h8 : p 8) : ∀ k, k < 9 → p k := by
  intro k hk
  rcases (by omega : k = 0 ∨ k = 1 ∨ k = 2 ∨ k = 3 ∨ k = 4 ∨ k = 5 ∨ k = 6 ∨ k = 7 ∨ k = 8) with rfl | rfl | rfl | rfl | rfl | rfl | rfl | rfl | rfl <;> assumption

theorem lit_at (h lit : ByteArray) (i j : Nat) (post : List UInt8) (w : World) (hh : h.data.toList.drop i = lit.data.toList ++ post) (hi : i ≤ h.size) (hsz : h.size ≤ 35184372088832) (hj : i + lit.size = j) :
    Calls Try.prog 16 #[.string h, .int .i64 i, .string lit] w fun e w' => e = .returned (.tuple #[.int .i64 j, .bool true]) ∧ Below w.heap.size w w' := by
  subst hj
  refine (lit_any h lit i post w hh hi hsz).mono ?_
  rintro e w' ⟨rfl, n, rfl⟩
  exact ⟨rfl, below_drewN (Below.refl _ _) n⟩

theorem lit_zero (h lit : ByteArray) (j : Nat) (post : List UInt8) (w : World) (hh : h.data.toList = lit.data.toList ++ post) (hsz : h.size ≤ 35184372088832) (hj : lit.size = j) :
    Calls Try.prog 16 #[.string h, .int .i64 0, .string lit] w fun e w' => e = .returned (.tuple #[.int .i64 j, .bool true]) ∧ Below w.heap.size w w' :=
  lit_at h lit 0 j post w (by simpa using hh) (Nat.zero_le _) hsz (by omega)

theorem dec_at (h t : ByteArray) (i j : Nat) (post : List UInt8) (w : World) (hh : h.data.toList.drop i = Pl.quote t.data.toList ++ post) (hsz : h.size ≤ 35184372088832) (hj : i + (Pl.quote t.data.toList).length = j) :
    Calls Try.prog 11 #[.string h, .int .i64 i] w fun e w' => e = .returned (.tuple #[.string t, .int .i64 j, .bool true]) ∧ Below w.heap.size w w' := by
  subst hj
  have := dec_any h i t.data.toList post w hh hsz
  rw [Lib.mk_data] at this
  exact this

theorem drop_next {h : ByteArray} {i : Nat} {l post : List UInt8} (e : h.data.toList.drop i = l ++ post) (hi : i ≤ h.size) : h.data.toList.drop (i + l.length) = post ∧ i + l.length ≤ h.size := by
  refine ⟨?_, ?_⟩
  · rw [← List.drop_drop, e, List.drop_left]
  · exact (drop_pre e hi).1

/-- Where parameter k begins, what stands ahead of it counted in. -/
def pos (V : Nat → ByteArray) (k : Nat) : Nat := (Pl.digest ++ Pl.body (bytesOf V) k).length

theorem pos_drop {V : Nat → ByteArray} {O : ByteArray} (hO : O.data.toList = Pl.header (bytesOf V)) (k : Nat) (hk : k ≤ 9) : O.data.toList.drop (pos V k) = Pl.rest (bytesOf V) (9 - k) k ∧ pos V k ≤ O.size := by
  have e := Pl.header_split (bytesOf V) k hk
  rw [hO, e]
  refine ⟨by simp [pos], ?_⟩
  rw [Lib.size_eq, hO, e]
  simp only [pos, List.length_append]; omega

theorem pos_succ (V : Nat → ByteArray) (k : Nat) : pos V (k + 1) = pos V k + (Pl.piece k (V k).data.toList).length := by
  simp only [pos, Pl.body, List.length_append, bytesOf]; omega

theorem pos_skip (V : Nat → ByteArray) (k : Nat) (h : (V k).data.toList = [] ∧ 5 ≤ k) : pos V (k + 1) = pos V k := by
  rw [pos_succ]; simp only [Pl.piece]; rw [if_pos h]; rfl

/-- The places on the way through a parameter that is there. -/
theorem pos_steps {V : Nat → ByteArray} {O : ByteArray} (hO : O.data.toList = Pl.header (bytesOf V)) (k : Nat) (hk : k < 9) (hv : ¬ ((V k).data.toList = [] ∧ 5 ≤ k)) :
    ∃ p1 p2 post1 post2 post3, O.data.toList.drop (pos V k) = Pl.pre k ++ post1 ∧ pos V k + (Pl.pre k).length = p1 ∧ pos V k ≤ O.size ∧
      O.data.toList.drop p1 = (nameB k ++ (⟨#[61]⟩ : ByteArray)).data.toList ++ post2 ∧ p1 + (nameB k ++ (⟨#[61]⟩ : ByteArray)).size = p2 ∧ p1 ≤ O.size ∧
      O.data.toList.drop p2 = Pl.val k (V k).data.toList ++ post3 ∧ p2 + (Pl.val k (V k).data.toList).length = pos V (k + 1) ∧ p2 ≤ O.size := by
  obtain ⟨d0, l0⟩ := pos_drop hO k (by omega)
  rw [Pl.rest_piece _ _ hk] at d0
  have hp : Pl.piece k (bytesOf V k) = Pl.pre k ++ ((nameB k ++ (⟨#[61]⟩ : ByteArray)).data.toList ++ Pl.val k (V k).data.toList) := by
    show Pl.piece k (V k).data.toList = _
    simp only [Pl.piece]; rw [if_neg hv]; simp [ByteArray.data_append, nameB]
  rw [hp, List.append_assoc] at d0
  obtain ⟨d1, l1⟩ := drop_next d0 l0
  rw [List.append_assoc] at d1
  obtain ⟨d2, l2⟩ := drop_next d1 l1
  rw [← Lib.size_eq (nameB k ++ _)] at d2 l2
  refine ⟨_, _, _, _, _, d0, rfl, l0, d1, rfl, l1, d2, ?_, l2⟩
  have hp2 : Pl.piece k (V k).data.toList = Pl.pre k ++ ((nameB k ++ (⟨#[61]⟩ : ByteArray)).data.toList ++ Pl.val k (V k).data.toList) := hp
  rw [pos_succ, hp2, Lib.size_eq (nameB k ++ _)]; simp only [List.length_append]; omega

theorem pos_end {V : Nat → ByteArray} {O : ByteArray} (hO : O.data.toList = Pl.header (bytesOf V)) : pos V 9 = O.size := by
  rw [Lib.size_eq, hO]; rfl

theorem creds_new (w : World) (a0 a1 a2 a3 a4 a5 a6 a7 a8 : ByteArray) (T : TypeId) : Creds (w.alloc (.cells #[.string a0, .string a1, .string a2, .string a3, .string a4, .string a5, .string a6, .string a7, .string a8] T)) w.heap.size (VV a0 a1 a2 a3 a4 a5 a6 a7 a8) := by
  have h := heap_alloc_new w (.cells #[.string a0, .string a1, .string a2, .string a3, .string a4, .string a5, .string a6, .string a7, .string a8] T)
  have c := Lib.cell_of_heap h
  exact nine (p := fun k => World.cell? _ ⟨w.heap.size, cidx k, none⟩ = some (.string (VV a0 a1 a2 a3 a4 a5 a6 a7 a8 k))) (c 0) (c 1) (c 2) (c 3) (c 4) (c 8) (c 5) (c 6) (c 7)

theorem vals_new (w : World) (a0 a1 a2 a3 a4 a5 a6 a7 a8 : ByteArray) (T : TypeId) : ∀ k, k < 9 → (w.alloc (.cells #[.string a0, .string a1, .string a2, .string a3, .string a4, .string a8, .string a5, .string a6, .string a7] T)).cell? ⟨w.heap.size, k, none⟩ = some (.string (VV a0 a1 a2 a3 a4 a5 a6 a7 a8 k)) := by
  have h := heap_alloc_new w (.cells #[.string a0, .string a1, .string a2, .string a3, .string a4, .string a8, .string a5, .string a6, .string a7] T)
  have c := Lib.cell_of_heap h
  exact nine (c 0) (c 1) (c 2) (c 3) (c 4) (c 5) (c 6) (c 7) (c 8)

end Go.Proofs.Qxb6603960a
