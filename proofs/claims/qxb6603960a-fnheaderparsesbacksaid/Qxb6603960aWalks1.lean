/-
  THE WALKS OF writeQuoted, ZZWriteQuoted, dgb1Quote.
-/
import Derived.Test.Qxb6603960aShelf
import Derived.Test.Qxb6603960aPlain
import Derived.WalkKit
import Derived.WalkSpells
import Derived.WalkLawsBesides
import Derived.BigCall
namespace Go.Proofs.Qxb6603960a
open Go.RowKit

/-- The byte of a string behind its first k. -/
theorem take_snoc (s : ByteArray) (k : Nat) (h : k < s.size) : s.data.toList.take (k + 1) = s.data.toList.take k ++ [s[k]] := by
  rw [List.take_succ_eq_append_getElem (by simpa using h)]; rfl

theorem hid {p : Prop} (h : p) : Hid p := h

theorem byteCells_snoc (l : List UInt8) (c : UInt8) : Lib.byteCells (l ++ [c]) = Lib.byteCells l ++ [.int .u8 c.toNat] := by
  rw [Lib.byteCells_append]; rfl

theorem esc_yes (l : List UInt8) (c : UInt8) (h : c.toNat = 34 ∨ c.toNat = 92) : Pl.esc (l ++ [c]) = Pl.esc l ++ [92] ++ [c] := by
  rw [Pl.esc_append]
  have : c = 34 ∨ c = 92 := by
    rcases h with h | h
    · exact Or.inl (UInt8.toNat_inj.1 h)
    · exact Or.inr (UInt8.toNat_inj.1 h)
  simp [Pl.esc, Pl.esc1, this]

theorem esc_no (l : List UInt8) (c : UInt8) (h1 : c.toNat ≠ 34) (h2 : c.toNat ≠ 92) : Pl.esc (l ++ [c]) = Pl.esc l ++ [c] := by
  rw [Pl.esc_append]
  have : ¬ (c = 34 ∨ c = 92) := by
    rintro (h | h)
    · exact h1 (by rw [h]; rfl)
    · exact h2 (by rw [h]; rfl)
  simp [Pl.esc, Pl.esc1, this]

set_option maxHeartbeats 1000000 in
set_option maxRecDepth 100000 in
/-- writeQuoted: the builder holds what it held, and the quoted-string behind it. -/
theorem wq_any (B b : Nat) (acc : List UInt8) (s : ByteArray) (w : World) (hI : Lib.IsBuilderF 26 5 B b (Lib.byteCells acc) w) (hlen : acc.length + 2 * s.size ≤ 70368744177664) (hBw : B ≤ w.heap.size) :
    Calls Try.prog 23 #[.pointer (some ⟨b, 0, none⟩), .string s] w fun e w' => e = .returned (.tuple #[]) ∧ Lib.IsBuilderF 26 5 B b (Lib.byteCells (acc ++ Pl.quote s.data.toList)) w' ∧ Below B w w' ∧ Lib.OthersKept 5 (some b) w w' := by
  go_enter Try.func23, Try.ntmps23
  go_wp2_with (go_at_call 27; refine (Try.Builder_WriteByte_k B b _ 34 _ hI (by rw [Lib.byteCells_length]; omega) hBw).mono ?_)
  rintro e w1 ⟨rfl, h1, b1, k1⟩
  go_wp2
  go_loopw [4] (fun i wr => ∃ k : Nat, k ≤ s.size ∧ i = .int .i64 k ∧ Lib.IsBuilderF 26 5 B b (Lib.byteCells (acc ++ 34 :: Pl.esc (s.data.toList.take k))) wr ∧ Below B w wr ∧ Lib.OthersKept 5 (some b) w wr) (fun i _ => s.size - (intOf i).toNat)
  case atStart =>
    refine ⟨0, Nat.zero_le _, rfl, Or.inr ?_, b1, k1⟩
    simpa [Lib.byteCells_append, Pl.esc, Lib.byteCells] using h1
  case round =>
    obtain ⟨k, hk, rfl, hIr, bw, kw⟩ := hrel
    have hsz : B ≤ wr.heap.size := Nat.le_trans hBw bw.size
    have hel := (Pl.esc_len (s.data.toList.take k)).2
    have hl : (s.data.toList.take k).length ≤ k := List.length_take_le _ _
    have hcl : (Lib.byteCells (acc ++ 34 :: Pl.esc (s.data.toList.take k))).length + 2 ≤ 140737488355328 := by
      rw [Lib.byteCells_length]; simp only [List.length_append, List.length_cons]; omega
    by_cases hlt : k < s.size
    · have hts := hid (take_snoc s k hlt)
      by_cases hc : s[k].toNat = 34 ∨ s[k].toNat = 92
      · have hes := hid (esc_yes (s.data.toList.take k) s[k] hc)
        have fin : ∀ w2 w3 (z : Int), z = s[k].toNat → Lib.BuilderAtF 26 5 B b (.pointer (some ⟨b, 0, none⟩)) (Lib.byteCells (acc ++ 34 :: Pl.esc (s.data.toList.take k)) ++ [.int .u8 92] ++ [.int .u8 z]) w3 → Below B wr w2 → Below B w2 w3 → Lib.OthersKept 5 (some b) wr w2 → Lib.OthersKept 5 (some b) w2 w3 →
            Lib.IsBuilderF 26 5 B b (Lib.byteCells (acc ++ 34 :: Pl.esc (s.data.toList.take (k + 1)))) w3 ∧ Below B w w3 ∧ Lib.OthersKept 5 (some b) w w3 := by
          rintro w2 w3 z rfl h3 b2 b3 k2 k3
          refine ⟨Or.inr ?_, (bw.trans b2).trans b3, (kw.trans k2).trans k3⟩
          rw [hts.out, hes.out]
          simpa [Lib.byteCells] using h3
        have Fin := hid fin
        clear fin
        rcases hc with hc | hc
        · go_wp2_with (go_at_call 27; refine (Try.Builder_WriteByte_k B b _ 92 _ hIr (by omega) hsz).mono ?_)
          rintro e w2 ⟨rfl, h2, b2, k2⟩
          go_wp2_with (go_at_call 27; refine (Try.Builder_WriteByte_k B b _ 34 _ (Or.inr h2) (by rw [List.length_append]; simp only [List.length_cons, List.length_nil]; omega) (Nat.le_trans hsz b2.size)).mono ?_)
          rintro e w3 ⟨rfl, h3, b3, k3⟩
          go_wp2
          go_roundw
          case rel => exact ⟨k + 1, by omega, by go_num, Fin.out w2 w3 34 (by rw [hc]; rfl) h3 b2 b3 k2 k3⟩
          case measure => simp [intOf]; omega
        · go_wp2_with (go_at_call 27; refine (Try.Builder_WriteByte_k B b _ 92 _ hIr (by omega) hsz).mono ?_)
          rintro e w2 ⟨rfl, h2, b2, k2⟩
          go_wp2_with (go_at_call 27; refine (Try.Builder_WriteByte_k B b _ 92 _ (Or.inr h2) (by rw [List.length_append]; simp only [List.length_cons, List.length_nil]; omega) (Nat.le_trans hsz b2.size)).mono ?_)
          rintro e w3 ⟨rfl, h3, b3, k3⟩
          go_wp2
          go_roundw
          case rel => exact ⟨k + 1, by omega, by go_num, Fin.out w2 w3 92 (by rw [hc]; rfl) h3 b2 b3 k2 k3⟩
          case measure => simp [intOf]; omega
      · obtain ⟨n34, n92⟩ := not_or.1 hc
        have hes := hid (esc_no (s.data.toList.take k) s[k] n34 n92)
        have c34 : ((s[k].toNat : Int) == 34) = false := by rw [beq_eq_false_iff_ne]; omega
        have c92 : ((s[k].toNat : Int) == 92) = false := by rw [beq_eq_false_iff_ne]; omega
        clear hc n34 n92
        go_wp2_with (go_at_call 27; refine (Try.Builder_WriteByte_k B b _ _ _ hIr (by omega) hsz).mono ?_)
        rintro e w3 ⟨rfl, h3, b3, k3⟩
        go_wp2
        go_roundw
        case rel =>
          refine ⟨k + 1, by omega, by go_num, Or.inr ?_, bw.trans b3, kw.trans k3⟩
          rw [hts.out, hes.out]
          simpa [Lib.byteCells] using h3
        case measure => simp [intOf]; omega
    · have hall : s.data.toList.take k = s.data.toList := List.take_of_length_le (by simp; omega)
      rw [hall] at hIr hcl
      clear hall
      go_wp2_with (go_at_call 27; refine (Try.Builder_WriteByte_k B b _ 34 _ hIr (by omega) hsz).mono ?_)
      rintro e w3 ⟨rfl, h3, b3, k3⟩
      go_wp2
      go_end0
      refine ⟨rfl, Or.inr ?_, bw.trans b3, kw.trans k3⟩
      simpa [Pl.quote, Lib.byteCells] using h3

set_option maxHeartbeats 400000 in
theorem zzwq_any (B b : Nat) (acc : List UInt8) (s : ByteArray) (w : World) (hI : Lib.IsBuilderF 26 5 B b (Lib.byteCells acc) w) (hlen : acc.length + 2 * s.size ≤ 70368744177664) (hBw : B ≤ w.heap.size) :
    Calls Try.prog 9 #[.pointer (some ⟨b, 0, none⟩), .string s] w fun e w' => e = .returned (.tuple #[]) ∧ Lib.IsBuilderF 26 5 B b (Lib.byteCells (acc ++ Pl.quote s.data.toList)) w' ∧ Below B w w' ∧ Lib.OthersKept 5 (some b) w w' := by
  go_enter Try.func9, Try.ntmps9
  go_wp2_with (go_at_call 23; refine (wq_any B b acc s _ hI hlen hBw).mono ?_)
  rintro e w1 ⟨rfl, h1, b1, k1⟩
  go_wp2
  go_end0
  exact ⟨rfl, h1, b1, k1⟩

/-- The quoted text as a string. -/
def quoteB (s : ByteArray) : ByteArray := ⟨(Pl.quote s.data.toList).toArray⟩

set_option maxHeartbeats 400000 in
theorem quote_any (s : ByteArray) (w : World) (hs : s.size ≤ 1048576) :
    Calls Try.prog 13 #[.string s] w fun e w' => e = .returned (.string (quoteB s)) ∧ Below w.heap.size w w' := by
  go_enter Try.func13, Try.ntmps13
  go_wp2_with (go_at_call 9; refine (zzwq_any w.heap.size w.heap.size [] s _ (Lib.IsBuilderF.of (Lib.fresh_isBuilder 26 5 w)) (by simp; omega) (by simp)).mono ?_)
  rintro e w1 ⟨rfl, h1, b1, k1⟩
  have hsz : w.heap.size ≤ w1.heap.size := Nat.le_trans (by simp) b1.size
  go_wp2_with (go_at_call 10; refine (Try.Builder_String_any_k w.heap.size w.heap.size _ _ h1 hsz).mono ?_)
  rintro e w2 ⟨rfl, h2, b2, k2⟩
  go_wp2
  go_ret
  exact ⟨rfl, ((((Below.refl _ w).alloc (Nat.le_refl _) _).trans b1).trans b2)⟩

end Go.Proofs.Qxb6603960a
